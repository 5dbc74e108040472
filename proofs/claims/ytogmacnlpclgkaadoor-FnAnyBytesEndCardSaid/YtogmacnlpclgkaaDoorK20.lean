/-
  TEXTS MERGED: W27, Q1, W28, P1.
-/
import Derived.Test.YtogmacnlpclgkaaDoorK19
import Derived.Test.YtogmacnlpclgkaaDoorK14
import Derived.Test.YtogmacnlpclgkaaDoorK08
/-! WALKS 27: impl.step, all, Read. -/
namespace Go.Proofs.YtogmacnlpclgkaaDoor
open Go Go.Eng
attribute [local irreducible] RO J Trip Quiet
set_option maxRecDepth 20000
variable {G : Mem} {S : Sent G} {dat : Nat → Nat} {N : Nat}

/-- A call of Read, as impl.step tells it. -/
theorem step_t (src : Source S dat N) (hd : ∀ i, dat i < 256) (hsk : SkipT src) {E : Type} (Ext : E → RX → Mem → Prop) (cmp : PS E → Nat → PS E × Bool) (can : PS E → Nat → Prop) (hcmp : CmpT src Ext cmp can) (hgo : CmpGo N cmp)
    (ini : E → E) (hini : ∀ e x em, Ext e x em → Ext (ini e) x.ini em) (fb : Blk) (hfb : (2, fb) ∈ G) (hfn : 0 < fb.n) (hfv : fb.g 0 = .bool false) (hN : N ≤ 2 ^ 62)
    (Ok : PS E → Prop) (hOk : OkS dat N ini cmp can Ok) (rb : Nat) (p : PS E) (m : Mem) (hm : RdM src Ext rb p m) (hp : Ok p) (n : Nat) (hn : n ≤ 2 ^ 40) :
    Trip Tryd.prog G 27 #[.pointer (some ⟨rb, 0, none⟩), .int .i64 (n : Nat)] m (fun v m' => ∃ m2 b B, RdM src Ext rb (rdRead dat N ini cmp n p).1 m2 ∧ m' = (b, B) :: m2 ∧
      v = .agg #[.int .i64 ((rdRead dat N ini cmp n p).2.1 : Nat), .slice (some ⟨b, 0, none⟩) (rdRead dat N ini cmp n p).2.1 n, .int .i64 ((rdRead dat N ini cmp n p).2.2 : Nat)] ∧ B.fr = (0, 0) ∧ n ≤ B.n ∧ (rdRead dat N ini cmp n p).2.1 ≤ n ∧
      (∀ i, i < (rdRead dat N ini cmp n p).2.1 → B.g i = u8f (rdGot dat N ini cmp p) i) ∧ ((rdRead dat N ini cmp n p).2.2 = 0 → Ok (rdRead dat N ini cmp n p).1)) := by
  refine Trip_of Tryd.func27 rfl (by show 2 ≤ _; decide) (args := [.pointer (some ⟨rb, 0, none⟩), .int .i64 (n : Nat)]) fun c h0 hex => ?_
  refine go _ ?_
  refine ro_alloc z49 rfl hex fun cb hcb => ?_
  refine go _ ?_
  refine J_condP rfl (fun hneg => absurd hneg (by omega)) (fun _ => ?_)
  refine go _ ?_
  refine ro_make (len := n) (cap := n) rfl rfl rfl rfl z5 (by decide) (Nat.le_refl _) hn hex rfl fun b hb => ?_
  refine go _ ?_
  refine ro_callT (read_t src hd hsk Ext cmp can hcmp hgo ini hini fb hfb hfn hfv hN Ok hOk rb p m hm hp b 0 n n ⟨n * (0 + 1), zerosG [.int .u8 0], 5, (0, 0)⟩ rfl (by show _ ≤ n * (0 + 1); omega) hn) ?_
  rintro v m' ⟨m2, e, hm2, rfl, rfl, he, hok2⟩
  have hkn : (rdRead dat N ini cmp n p).2.1 ≤ n := by
    unfold rdRead; split
    · exact Nat.min_le_left _ _
    · exact Nat.zero_le _
  generalize rdRead dat N ini cmp n p = r at hm2 he hok2 hkn ⊢
  generalize rdGot dat N ini cmp p = D
  obtain ⟨p2, k, code⟩ := r
  dsimp only at hm2 he hok2 hkn ⊢
  refine RO_eqv (swap1 _ _).symm (fun _ h => J_eqv (swap1 _ _).symm h) ?_
  rcases he with ⟨rfl, rfl⟩ | ⟨rfl, he'⟩ | ⟨rfl, he'⟩
  · have he : EndV S 0 (.nilIface) := .inl ⟨rfl, rfl⟩
    refine go _ ?_
    refine ro_min rfl rfl rfl ?_
    rw [if_neg (by omega)]
    refine go _ ?_
    refine ro_max rfl rfl rfl ?_
    rw [show (if ((k : Nat) : Int) > 0 then ((k : Nat) : Int) else 0) = ((k : Nat) : Int) by split <;> omega]
    refine go _ ?_
    refine ro_callT (end_t S _ _ he) ?_
    rintro v m ⟨rfl, rfl⟩
    refine go _ ?_
    refine ro_build1 (vs := [.int .i64 (k : Nat), .slice (some ⟨b, 0, none⟩) k n, .int .i64 ((0 : Nat) : Int)]) rfl rfl z49 rfl rfl rfl rfl ?_
    refine go _ ?_
    refine ro_storeAgg (s := 2) (vs := [.int .i64 (k : Nat), .slice (some ⟨b, 0, none⟩) k n, .int .i64 ((0 : Nat) : Int)]) rfl rfl rfl rfl (fun v hv => by simp only [List.mem_cons, List.not_mem_nil, or_false] at hv; rcases hv with rfl | rfl | rfl <;> rfl) .here (Nat.le_refl 3) rfl hex ?_
    refine go _ ?_
    refine J_ret ?_
    refine ends_retC [.cell 4 49] [.agg #[.int .i64 (k : Nat), .slice (some ⟨b, 0, none⟩) k n, .int .i64 ((0 : Nat) : Int)]] ⟨⟨cb, 0, 2, _, rfl, rfl, rfl, List.mem_cons_self, Nat.le_refl 3, rfl⟩, trivial⟩ (post := (b, _) :: m2) (junk := [(cb, ⟨3, blit (listG [.int .i64 0, .slice none 0 0, .int .i64 0]) 0 3 (listG [.int .i64 (k : Nat), .slice (some ⟨b, 0, none⟩) k n, .int .i64 ((0 : Nat) : Int)]), 49, (0, 0)⟩)]) ⟨m2, b, _, hm2, rfl, rfl, rfl, by show n ≤ n * (0 + 1); omega, hkn, fun i hi => ?_, hok2⟩ rfl (swap1 _ _)
    show blit _ 0 k _ i = _
    rw [blit_in _ _ _ _ _ (by omega) (by omega)]; rfl
  · obtain rfl : e = .iface 122 (.pointer (some ⟨S.eb, S.eo, none⟩)) := he'
    have he : EndV S 1 (.iface 122 (.pointer (some ⟨S.eb, S.eo, none⟩))) := .inr (.inl ⟨rfl, rfl⟩)
    refine go _ ?_
    refine ro_min rfl rfl rfl ?_
    rw [if_neg (by omega)]
    refine go _ ?_
    refine ro_max rfl rfl rfl ?_
    rw [show (if ((k : Nat) : Int) > 0 then ((k : Nat) : Int) else 0) = ((k : Nat) : Int) by split <;> omega]
    refine go _ ?_
    refine ro_callT (end_t S _ _ he) ?_
    rintro v m ⟨rfl, rfl⟩
    refine go _ ?_
    refine ro_build1 (vs := [.int .i64 (k : Nat), .slice (some ⟨b, 0, none⟩) k n, .int .i64 ((1 : Nat) : Int)]) rfl rfl z49 rfl rfl rfl rfl ?_
    refine go _ ?_
    refine ro_storeAgg (s := 2) (vs := [.int .i64 (k : Nat), .slice (some ⟨b, 0, none⟩) k n, .int .i64 ((1 : Nat) : Int)]) rfl rfl rfl rfl (fun v hv => by simp only [List.mem_cons, List.not_mem_nil, or_false] at hv; rcases hv with rfl | rfl | rfl <;> rfl) .here (Nat.le_refl 3) rfl hex ?_
    refine go _ ?_
    refine J_ret ?_
    refine ends_retC [.cell 4 49] [.agg #[.int .i64 (k : Nat), .slice (some ⟨b, 0, none⟩) k n, .int .i64 ((1 : Nat) : Int)]] ⟨⟨cb, 0, 2, _, rfl, rfl, rfl, List.mem_cons_self, Nat.le_refl 3, rfl⟩, trivial⟩ (post := (b, _) :: m2) (junk := [(cb, ⟨3, blit (listG [.int .i64 0, .slice none 0 0, .int .i64 0]) 0 3 (listG [.int .i64 (k : Nat), .slice (some ⟨b, 0, none⟩) k n, .int .i64 ((1 : Nat) : Int)]), 49, (0, 0)⟩)]) ⟨m2, b, _, hm2, rfl, rfl, rfl, by show n ≤ n * (0 + 1); omega, hkn, fun i hi => ?_, hok2⟩ rfl (swap1 _ _)
    show blit _ 0 k _ i = _
    rw [blit_in _ _ _ _ _ (by omega) (by omega)]; rfl
  · obtain ⟨et, b', eo, rfl⟩ := ErrB.form he'
    have he : EndV S 2 (.iface et (.pointer (some ⟨b', eo, none⟩))) := .inr (.inr ⟨rfl, he'⟩)
    refine go _ ?_
    refine ro_min rfl rfl rfl ?_
    rw [if_neg (by omega)]
    refine go _ ?_
    refine ro_max rfl rfl rfl ?_
    rw [show (if ((k : Nat) : Int) > 0 then ((k : Nat) : Int) else 0) = ((k : Nat) : Int) by split <;> omega]
    refine go _ ?_
    refine ro_callT (end_t S _ _ he) ?_
    rintro v m ⟨rfl, rfl⟩
    refine go _ ?_
    refine ro_build1 (vs := [.int .i64 (k : Nat), .slice (some ⟨b, 0, none⟩) k n, .int .i64 ((2 : Nat) : Int)]) rfl rfl z49 rfl rfl rfl rfl ?_
    refine go _ ?_
    refine ro_storeAgg (s := 2) (vs := [.int .i64 (k : Nat), .slice (some ⟨b, 0, none⟩) k n, .int .i64 ((2 : Nat) : Int)]) rfl rfl rfl rfl (fun v hv => by simp only [List.mem_cons, List.not_mem_nil, or_false] at hv; rcases hv with rfl | rfl | rfl <;> rfl) .here (Nat.le_refl 3) rfl hex ?_
    refine go _ ?_
    refine J_ret ?_
    refine ends_retC [.cell 4 49] [.agg #[.int .i64 (k : Nat), .slice (some ⟨b, 0, none⟩) k n, .int .i64 ((2 : Nat) : Int)]] ⟨⟨cb, 0, 2, _, rfl, rfl, rfl, List.mem_cons_self, Nat.le_refl 3, rfl⟩, trivial⟩ (post := (b, _) :: m2) (junk := [(cb, ⟨3, blit (listG [.int .i64 0, .slice none 0 0, .int .i64 0]) 0 3 (listG [.int .i64 (k : Nat), .slice (some ⟨b, 0, none⟩) k n, .int .i64 ((2 : Nat) : Int)]), 49, (0, 0)⟩)]) ⟨m2, b, _, hm2, rfl, rfl, rfl, by show n ≤ n * (0 + 1); omega, hkn, fun i hi => ?_, hok2⟩ rfl (swap1 _ _)
    show blit _ 0 k _ i = _
    rw [blit_in _ _ _ _ _ (by omega) (by omega)]; rfl

/-! Progress -/
section
variable {E : Type} {ini : E → E} {cmp : PS E → Nat → PS E × Bool}
theorem rdNeed_prog (hc : CmpGo N cmp) : ∀ f (p : PS E), (rdNeed dat N ini cmp f p).2 = 0 → ((rdNeed dat N ini cmp f p).1 = p ∨ N - (rdNeed dat N ini cmp f p).1.pos < N - p.pos) ∧ (rdNeed dat N ini cmp f p).1.off < (rdNeed dat N ini cmp f p).1.bl
  | 0, p, h => absurd h (by show ¬ (2 : Nat) = 0; decide)
  | f + 1, p, h => by
    rw [rdNeed_eq] at h ⊢
    by_cases h1 : p.off < p.bl
    · rw [if_pos h1]; exact ⟨.inl rfl, h1⟩
    · rw [if_neg h1] at h ⊢
      by_cases h2 : (rdFill dat N ini cmp p).2 = 0
      · rw [if_pos h2] at h ⊢
        have h3 := rdFill_pos dat N ini cmp hc p h2
        obtain ⟨h4, h5⟩ := rdNeed_prog hc f _ h
        refine ⟨.inr ?_, h5⟩
        rcases h4 with h4 | h4
        · rw [h4]; exact h3
        · exact Nat.lt_trans h4 h3
      · rw [if_neg h2] at h; exact absurd h h2
def rdMeas (N : Nat) (p : PS E) : Nat := (N - p.pos) * 2147483648 + (p.bl - p.off)
theorem rdRead_prog (hc : CmpGo N cmp) (n : Nat) (hn : 0 < n) (p : PS E) (h : (rdRead dat N ini cmp n p).2.2 = 0) (hb : (rdRead dat N ini cmp n p).1.bl ≤ 2 ^ 30) : rdMeas N (rdRead dat N ini cmp n p).1 < rdMeas N p := by
  unfold rdRead at h hb ⊢
  by_cases h0 : (rdNeed dat N ini cmp (N + 1) p).2 = 0
  · obtain ⟨h1, h2⟩ := rdNeed_prog hc (N + 1) p h0
    rw [if_pos h0] at hb ⊢
    dsimp only at hb ⊢
    unfold rdMeas
    dsimp only
    rcases h1 with h1 | h1
    · rw [h1] at h2 ⊢; omega
    · omega
  · rw [if_neg h0] at h
    exact absurd h h0
theorem rdRead_zero (n : Nat) (p : PS E) (h : (rdRead dat N ini cmp n p).2.2 ≠ 0) : (rdRead dat N ini cmp n p).2.1 = 0 := by
  unfold rdRead at h ⊢
  split at h
  · exact absurd rfl h
  · rename_i h0; rw [if_neg h0]
end

theorem mAll (x y : Nat × Blk) (m j s : Mem) : MEqv ((x :: y :: (m ++ j)) ++ s) (m ++ (s ++ (x :: y :: j))) := by
  have h : ((x :: y :: (m ++ j)) ++ s).Perm (m ++ (s ++ (x :: y :: j))) := by
    have e1 : (x :: y :: (m ++ j)) ++ s = [x, y] ++ (m ++ (j ++ s)) := by simp
    rw [e1]
    refine (pA [x, y] m (j ++ s)).trans (List.Perm.append_left m ?_)
    rw [← List.append_assoc]
    exact List.perm_append_comm
  exact .of_perm h

structure AllS (E : Type) where
  p : PS E
  m : Mem
  om : Mem
  j : Mem
  oa : Option Addr
  cp : Nat
  O : Nat → Nat
  ol : Nat

set_option maxHeartbeats 1000000 in
theorem all_t (src : Source S dat N) (hd : ∀ i, dat i < 256) (hsk : SkipT src) {E : Type} (Ext : E → RX → Mem → Prop) (cmp : PS E → Nat → PS E × Bool) (can : PS E → Nat → Prop) (hcmp : CmpT src Ext cmp can) (hgo : CmpGo N cmp)
    (ini : E → E) (hini : ∀ e x em, Ext e x em → Ext (ini e) x.ini em) (fb : Blk) (hfb : (2, fb) ∈ G) (hfn : 0 < fb.n) (hfv : fb.g 0 = .bool false) (hN : N ≤ 2 ^ 62)
    (Ok : PS E → Prop) (hOk : OkS dat N ini cmp can Ok) (rb : Nat) (p : PS E) (m : Mem) (hm : RdM src Ext rb p m) (hp : Ok p) (r : (Nat → Nat) × Nat × Bool) (O0 : Nat → Nat) (hr : AllR dat N ini cmp 4096 p O0 0 r) (hl : r.2.1 ≤ 2 ^ 39) :
    Trip Tryd.prog G 23 #[.pointer (some ⟨rb, 0, none⟩)] m (fun v om => ∃ out, v = .tuple #[out, .bool r.2.2] ∧ SlM 1 out r.2.1 (u8f r.1) om) := by
  refine Trip_of Tryd.func23 rfl (by show 1 ≤ _; decide) (args := [.pointer (some ⟨rb, 0, none⟩)]) fun c h0 hex => ?_
  refine go _ ?_
  refine J_loopL (σ := AllS E) [] (fun t => [(0, .pointer (some ⟨rb, 0, none⟩)), (4, .slice t.oa t.ol t.cp)]) (fun t => t.m ++ (t.om ++ t.j))
    (fun t => RdM src Ext rb t.p t.m ∧ Ok t.p ∧ SlM 1 (.slice t.oa t.ol t.cp) t.ol (u8f t.O) t.om ∧ AllR dat N ini cmp 4096 t.p t.O t.ol r) (fun t => rdMeas N t.p) ⟨p, m, [], [], none, 0, O0, 0⟩ (by simpa using MEqv.refl m) ⟨hm, hp, .inl ⟨rfl, rfl, rfl⟩, hr⟩ ?_
  rintro ⟨p1, m1, om, j1, oa, cp, O, ol⟩ f ⟨hm1, hp1, hsl, hAll⟩
  dsimp only at hm1 hp1 hsl hAll ⊢
  have hge := hAll.ge
  refine go _ ?_
  refine ro_callT (step_t src hd hsk Ext cmp can hcmp hgo ini hini fb hfb hfn hfv hN Ok hOk rb p1 m1 hm1 hp1 4096 (by omega)) ?_ (fm := om ++ j1) (hs := .refl _)
  rintro v m' ⟨m2, b, B, hm2, rfl, rfl, hBf, hBn, hk, hg, hok2⟩
  have hpr := rdRead_prog (dat := dat) (ini := ini) hgo 4096 (by omega) p1
  have hnx := hAll.next
  have hls := hAll.last
  have hz := rdRead_zero (dat := dat) (N := N) (ini := ini) (cmp := cmp) 4096 p1
  generalize rdGot dat N ini cmp p1 = D at hg hnx
  generalize rdRead dat N ini cmp 4096 p1 = rr at hm2 hk hg hok2 hpr hnx hls hz ⊢
  obtain ⟨p2, k, code⟩ := rr
  dsimp only at hm2 hk hg hok2 hpr hnx hls hz ⊢
  have hol : ol + k ≤ 2 ^ 40 := by omega
  have hbl2 : p2.bl ≤ 2 ^ 30 := by
    obtain ⟨_, _, _, _, _, _, _, _, _, _, _, _, _, _, h, _⟩ := hm2
    exact h
  refine go _ ?_
  refine ro_alloc z49 rfl hex fun cb hcb => ?_
  refine go _ ?_
  refine ro_storeAgg (s := 2) (vs := [.int .i64 (k : Nat), .slice (some ⟨b, 0, none⟩) k 4096, .int .i64 (code : Nat)]) rfl rfl rfl rfl (fun v hv => by simp only [List.mem_cons, List.not_mem_nil, or_false] at hv; rcases hv with rfl | rfl | rfl <;> rfl) .here (Nat.le_refl 3) rfl hex ?_
  refine go _ ?_
  refine RO_eqv (m' := (cb, listB [.int .i64 (k : Nat), .slice (some ⟨b, 0, none⟩) k 4096, .int .i64 (code : Nat)] 49) :: (b, B) :: (m2 ++ (om ++ j1))) ?hM ?hQ ?hR
  case hM => exact .cons (blk_tab rfl rfl rfl rfl) (.refl _)
  case hQ => intro f h; refine J_eqv ?_ h; exact .cons (blk_tab rfl rfl rfl rfl) (.refl _)
  refine go _ ?_
  refine ro_appendMF (s := 0) (src := fun j => B.g (0 + j)) (k := k) (len := ol) (v := .slice oa ol cp) (cl := u8f O) (sm := om) (fm := (cb, listB [.int .i64 (k : Nat), .slice (some ⟨b, 0, none⟩) k 4096, .int .i64 (code : Nat)] 49) :: (b, B) :: (m2 ++ j1)) rfl rfl rfl rfl z5 (by decide) rfl rfl hsl
    (pA ((cb, listB [.int .i64 (k : Nat), .slice (some ⟨b, 0, none⟩) k 4096, .int .i64 (code : Nat)] 49) :: (b, B) :: m2) om j1) (Src.of (B := B) (by simp) (by omega)) (fun j hj => by rw [Nat.zero_add, hg j (by omega)]; rfl) hol hex rfl ?_
  intro v' sm' hv' hone'
  obtain ⟨oa', cp', rfl⟩ := slmForm hv'
  refine go _ ?_
  refine J_condP rfl (fun hne => ?_) (fun heq => ?_)
  · have hne' : code ≠ 0 := by omega
    have hk0 := hz hne'
    have hr' := hls hne'
    subst hk0 hr'
    refine go _ ?_
    refine J_ret ?_
    refine ends_retS [2, 3] (post := sm') (junk := (cb, listB [.int .i64 ((0 : Nat) : Int), .slice (some ⟨b, 0, none⟩) 0 4096, .int .i64 (code : Nat)] 49) :: (b, B) :: (m2 ++ j1)) ⟨.slice oa' (ol + 0) cp', ?_, slmCongr hv' fun i hi => ?_⟩ rfl (.of_perm List.perm_append_comm)
    · show Value.tuple #[.slice oa' (ol + 0) cp', .bool (decide (((code : Nat) : Int) = 1))] = Value.tuple #[.slice oa' (ol + 0) cp', .bool (decide (code = 1))]
      rw [show decide (((code : Nat) : Int) = 1) = decide (code = 1) by rw [decide_eq_decide]; omega]
    · rw [if_pos (by omega)]
  · have heq' : code = 0 := by omega
    refine go _ ?_
    refine ⟨⟨p2, m2, sm', (cb, _) :: (b, B) :: j1, oa', cp', catF O ol D, ol + k⟩, hpr heq' hbl2, ⟨hm2, hok2 heq', slmCongr hv' fun i hi => ?_, hnx heq'⟩, ⟨rfl, rfl, trivial⟩, mAll _ _ _ _ _⟩
    have hi : i < (ol + k) * (0 + 1) := hi
    show _ = u8f (catF O ol D) i
    unfold catF u8f
    by_cases hi2 : i < ol
    · rw [if_pos (by omega)]; dsimp only; rw [if_pos hi2]
    · rw [if_neg (by omega)]; dsimp only; rw [if_neg hi2, Nat.zero_add, show i - ol * (0 + 1) = i - ol by omega, hg _ (by omega)]; rfl
end Go.Proofs.YtogmacnlpclgkaaDoor

/-! PLAIN LAWS 1: a frame of one block of bytes as they are is read as these, if its size (and checksum) is right, and else told as an error. -/
namespace Go.Proofs.YtogmacnlpclgkaaDoor
open Go Go.Eng
set_option maxRecDepth 4000
section
variable {E : Type} {dat : Nat → Nat} {N : Nat} {ini : E → E} {cmp : PS E → Nat → PS E × Bool}

/-- A frame with one block of L bytes, as they are. -/
structure Fr1 (dat : Nat → Nat) (N : Nat) (tx : Nat → Nat) (L n hl : Nat) (sum : Bool) (win x : Nat) : Prop where
  hdr : hdrAt dat N (skipTo dat N N 0) = .ok sum true n win hl
  blk : hdr3 dat hl = 8 * L + 1
  txt : ∀ i, i < L → dat (hl + 3 + i) = tx i
  len : N = hl + 3 + L + (if sum then 4 else 0)
  le : L ≤ 131072
  win : win = 0 ∨ L ≤ win
  sm : sum = true → le4 (fun i => dat (hl + 3 + L + i)) = x

theorem skip_end (dat : Nat → Nat) (N : Nat) : skipTo dat N N N = N := by
  cases N with
  | zero => rfl
  | succ n =>
    unfold skipTo wholeSkip isSkip
    rw [if_neg]
    simp
theorem hdr_end (dat : Nat → Nat) (N : Nat) : hdrAt dat N N = .short := by
  unfold hdrAt; rw [if_pos (by omega)]

/-- Behind all frames, with bytes left in the buffer. -/
theorem drain (tx : Nat → Nat) : ∀ k (p : PS E) (O : Nat → Nat), p.bl - p.off = k → p.saw = false → p.pos = N → p.one = true → p.off ≤ p.bl → (∀ i, i < p.bl → p.S i = tx i) → (∀ i, i < p.off → O i = tx i) →
    ∃ O', AllR dat N ini cmp 4096 p O p.off (O', p.bl, true) ∧ ∀ i, i < p.bl → O' i = tx i := by
  intro k
  induction k using Nat.strongRecOn with
  | _ k ih =>
    intro p O hk hs hp ho hle hS hO
    by_cases h : p.off < p.bl
    · have h1 := rdNeed_done dat N ini cmp p h
      have hr : rdRead dat N ini cmp 4096 p = ({ p with off := p.off + min 4096 (p.bl - p.off) }, min 4096 (p.bl - p.off), 0) := by
        unfold rdRead; rw [h1]; rfl
      have hg : rdGot dat N ini cmp p = fun i => p.S (p.off + i) := by unfold rdGot; rw [h1]
      obtain ⟨O', h2, h3⟩ := ih (p.bl - (p.off + min 4096 (p.bl - p.off))) (by omega) { p with off := p.off + min 4096 (p.bl - p.off) } (catF O p.off (rdGot dat N ini cmp p)) rfl hs hp ho (by dsimp only; omega) hS (by
        intro i hi
        dsimp only at hi
        unfold catF
        split
        · exact hO i ‹_›
        · rw [hg]
          dsimp only
          rw [show p.off + (i - p.off) = i by omega]
          exact hS i (by omega))
      refine ⟨O', .step p O p.off _ (by rw [hr]) ?_, h3⟩
      rw [show (rdRead dat N ini cmp 4096 p).1 = { p with off := p.off + min 4096 (p.bl - p.off) } by rw [hr], show (rdRead dat N ini cmp 4096 p).2.1 = min 4096 (p.bl - p.off) by rw [hr]]
      exact h2
    · have hoff : p.off = p.bl := by omega
      have hh : rdHdr dat N ini p = ({ p with pos := N, one := true }, 1) := by
        unfold rdHdr
        rw [hp, skip_end, hdr_end]
        dsimp only
        rw [ho, Bool.true_or, if_pos ⟨Nat.sub_self _, rfl⟩]
      have hH : rdHd dat N ini p = ({ p with pos := N, one := true }, 1) := by
        unfold rdHd
        rw [if_neg (by rw [hs]; decide), hh]
      have hf : rdFill dat N ini cmp p = ({ p with pos := N, one := true }, 1) := by
        unfold rdFill
        rw [hH, if_neg (by show ¬ (1 : Nat) = 0; decide)]
      have hr : (rdRead dat N ini cmp 4096 p).2.2 = 1 := by
        unfold rdRead
        rw [rdNeed_stop dat N ini cmp p h (by rw [hf]; exact Nat.one_ne_zero), hf, if_neg (by show ¬ (1 : Nat) = 0; decide)]
      refine ⟨O, ?_, fun i hi => hO i (by omega)⟩
      have := AllR.stop (dat := dat) (N := N) (ini := ini) (cmp := cmp) (n := 4096) p O p.off (by rw [hr]; decide)
      rw [hr, hoff] at this
      rw [hoff]
      exact this

variable {tx : Nat → Nat} {L n hl : Nat} {sum : Bool} {win x : Nat}

theorem fr1_hd (h : Fr1 dat N tx L n hl sum win x) (p : PS E) (hs : p.saw = false) (hp : p.pos = 0) :
    rdHd dat N ini p = ({ p with pos := hl, saw := true, sum := sum, one := true, unk := false, rem := n, wl := 0, wsz := win, XN := 0, e := ini p.e }, 0) := by
  unfold rdHd rdHdr
  rw [hs, if_neg (by decide), hp, h.hdr]
  rfl

theorem xhead_congr {v v' : Nat → Nat} (h : ∀ i, i < 4 → v i = v' i) (l : Nat) : xhead v l = xhead v' l := by
  unfold xhead xsum
  rw [h 0 (by omega), h 1 (by omega), h 2 (by omega), h 3 (by omega)]
theorem xdig_same {T T' : Nat → Nat} {L : Nat} (h : ∀ i, i < L → T i = T' i) : xdig T L = xdig T' L := by
  unfold xdig
  rw [xhead_congr (fun i hi => xacc_congr (L / 32) (fun j hj => h j (by omega)) i hi), xtail_congr fun i hi => h (32 * (L / 32) + i) (by omega)]

theorem rdBlk_raw (p : PS E) (L : Nat) (h3 : 3 ≤ N - p.pos) (hb : hdr3 dat p.pos = 8 * L + 1) (hL : L ≤ 131072) (hw : ¬ (0 < p.wsz ∧ p.wsz < L)) (hk : L ≤ N - (p.pos + 3)) :
    rdBlk dat N cmp p = rdEnd dat N true { p with pos := p.pos + 3 + L, S := ov p.S L dat (p.pos + 3), bl := L } := by
  have hsz : (8 * L + 1) / 8 = L := by omega
  have hty : (8 * L + 1) / 2 % 4 = 0 := by omega
  have hmn : min L (N - (p.pos + 3)) = L := by omega
  have hl : decide ((8 * L + 1) % 2 ≠ 0) = true := by rw [decide_eq_true_iff]; omega
  unfold rdBlk
  rw [if_neg (by omega)]
  dsimp only
  rw [hb, if_neg (by omega), if_pos hty, if_neg (by omega), hl, hsz, hmn]

theorem fr1_fill (h : Fr1 dat N tx L n hl sum win x) (p : PS E) (hs : p.saw = false) (hp : p.pos = 0) :
    (rdFill dat N ini cmp p).2 = (if n = L ∧ (sum = true → x = xdig tx L % 4294967296) then 0 else 2) ∧
    ((rdFill dat N ini cmp p).2 = 0 → (rdFill dat N ini cmp p).1.saw = false ∧ (rdFill dat N ini cmp p).1.pos = N ∧ (rdFill dat N ini cmp p).1.one = true ∧ (rdFill dat N ini cmp p).1.bl = L ∧ ∀ i, i < L → (rdFill dat N ini cmp p).1.S i = tx i) := by
  have hlen := h.len
  have hle := h.le
  have hwn := h.win
  obtain ⟨P, hP⟩ : ∃ P : PS E, P = { p with pos := hl + 3 + L, saw := true, sum := sum, one := true, unk := false, rem := n, S := ov p.S L dat (hl + 3), bl := L, wl := 0, wsz := win, XN := 0, e := ini p.e } := ⟨_, rfl⟩
  have hF : rdFill dat N ini cmp p = ((rdEnd dat N true P).1, if (rdEnd dat N true P).2 then 0 else 2) := by
    unfold rdFill
    rw [fr1_hd h p hs hp, if_pos rfl, rdBlk_raw _ L (by dsimp only; split at hlen <;> omega) h.blk hle (by dsimp only; omega) (by dsimp only; split at hlen <;> omega), hP]
  have p1 : P.unk = false := by rw [hP]
  have p2 : P.rem = n := by rw [hP]
  have p3 : P.bl = L := by rw [hP]
  have p4 : P.sum = sum := by rw [hP]
  have p5 : P.pos = hl + 3 + L := by rw [hP]
  have p6 : P.XN = 0 := by rw [hP]
  have p7 : P.one = true := by rw [hP]
  have hov : ∀ i, i < L → P.S i = tx i := fun i hi => by rw [hP]; show ov p.S L dat (hl + 3) i = _; unfold ov; rw [if_pos hi]; exact h.txt i hi
  clear hP
  have hx : xdig (catF P.XT 0 P.S) L = xdig tx L := xdig_same fun i hi => by
    unfold catF; rw [if_neg (Nat.not_lt_zero _), Nat.sub_zero]; exact hov i hi
  rw [hF]
  by_cases h1 : n < L
  · have hE : rdEnd dat N true P = (P, false) := by unfold rdEnd; rw [if_pos ⟨p1, by omega⟩]
    have g : (if n = L ∧ (sum = true → x = xdig tx L % 4294967296) then (0 : Nat) else 2) = 2 := if_neg fun h => by omega
    rw [hE, g]
    exact ⟨rfl, fun h => absurd h (by show ¬ (2 : Nat) = 0; decide)⟩
  by_cases h2 : n = L
  · cases sum with
    | false =>
      have hE : rdEnd dat N true P = ({ P with rem := P.rem - P.bl, saw := false }, true) := by
        unfold rdEnd
        rw [if_neg (by omega)]
        dsimp only
        rw [if_neg (by decide), p1, p4]
        simp only [Bool.false_eq_true, if_false, if_true]
        rw [if_neg (by omega)]
      have g : (if n = L ∧ (false = true → x = xdig tx L % 4294967296) then (0 : Nat) else 2) = 0 := if_pos ⟨h2, fun h => absurd h (by decide)⟩
      rw [hE, g]
      exact ⟨rfl, fun _ => ⟨rfl, by simp only [Bool.false_eq_true, if_false] at hlen; dsimp only; omega, p7, p3, hov⟩⟩
    | true =>
      simp only [if_true] at hlen
      have hE : rdEnd dat N true P = (if x = xdig tx L % 4294967296 then ({ P with rem := P.rem - P.bl, XT := catF P.XT P.XN P.S, XN := P.XN + P.bl, pos := P.pos + 4, saw := false }, true) else ({ P with rem := P.rem - P.bl, XT := catF P.XT P.XN P.S, XN := P.XN + P.bl, pos := P.pos + 4 }, false)) := by
        unfold rdEnd
        rw [if_neg (by omega)]
        dsimp only
        rw [if_neg (by decide), p1, p4]
        simp only [Bool.false_eq_true, if_false, if_true]
        rw [if_neg (by omega), if_neg (by decide), if_neg (by omega)]
        have e1 : le4 (fun i => dat (P.pos + i)) = x := by rw [p5]; exact h.sm rfl
        have e2 : xdig (catF P.XT P.XN P.S) (P.XN + P.bl) = xdig tx L := by rw [p6, p3, Nat.zero_add]; exact hx
        rw [e1, e2]
      by_cases h3 : x = xdig tx L % 4294967296
      · rw [if_pos h3] at hE
        have g : (if n = L ∧ (true = true → x = xdig tx L % 4294967296) then (0 : Nat) else 2) = 0 := if_pos ⟨h2, fun _ => h3⟩
        rw [hE, g]
        exact ⟨rfl, fun _ => ⟨rfl, by dsimp only; omega, p7, p3, hov⟩⟩
      · rw [if_neg h3] at hE
        have g : (if n = L ∧ (true = true → x = xdig tx L % 4294967296) then (0 : Nat) else 2) = 2 := if_neg fun h => h3 (h.2 rfl)
        rw [hE, g]
        exact ⟨rfl, fun h => absurd h (by show ¬ (2 : Nat) = 0; decide)⟩
  · have hE : (rdEnd dat N true P).2 = false := by
      unfold rdEnd
      rw [if_neg (by omega)]
      dsimp only
      rw [if_neg (by decide), p1]
      simp only [Bool.false_eq_true, if_false]
      rw [if_pos ⟨trivial, by omega⟩]
    have g : (if n = L ∧ (sum = true → x = xdig tx L % 4294967296) then (0 : Nat) else 2) = 2 := if_neg fun h => h2 h.1
    rw [hE, g]
    exact ⟨rfl, fun h => absurd h (by show ¬ (2 : Nat) = 0; decide)⟩

/-- All of such a frame. -/
theorem fr1_all (hc : CmpGo N cmp) (h : Fr1 dat N tx L n hl sum win x) (p : PS E) (hs : p.saw = false) (hp : p.pos = 0) (hb : ¬ p.off < p.bl) (O : Nat → Nat) :
    ∃ r, AllR dat N ini cmp 4096 p O 0 r ∧ r.2.2 = decide (n = L ∧ (sum = true → x = xdig tx L % 4294967296)) ∧ (r.2.2 = true → r.2.1 = L ∧ ∀ i, i < L → r.1 i = tx i) ∧ r.2.1 ≤ L := by
  obtain ⟨h1, h2⟩ := fr1_fill (ini := ini) (cmp := cmp) h p hs hp
  by_cases hg : n = L ∧ (sum = true → x = xdig tx L % 4294967296)
  · rw [if_pos hg] at h1
    obtain ⟨a1, a2, a3, a4, a5⟩ := h2 h1
    have hn := rdNeed_step dat N ini cmp hc p hb h1
    obtain ⟨O', h3, h4⟩ := drain (dat := dat) (N := N) (ini := ini) (cmp := cmp) tx _ { (rdFill dat N ini cmp p).1 with off := 0 } O rfl a1 a2 a3 (Nat.zero_le _) (fun i hi => a5 i (by rw [← a4]; exact hi)) (fun i hi => absurd hi (Nat.not_lt_zero _))
    have hr : rdRead dat N ini cmp 4096 p = rdRead dat N ini cmp 4096 { (rdFill dat N ini cmp p).1 with off := 0 } := by
      unfold rdRead; rw [hn]
    have hg' : rdGot dat N ini cmp p = rdGot dat N ini cmp { (rdFill dat N ini cmp p).1 with off := 0 } := by
      unfold rdGot; rw [hn]
    refine ⟨(O', (rdFill dat N ini cmp p).1.bl, true), ?_, by rw [decide_eq_true hg], fun _ => ⟨a4, fun i hi => h4 i (by dsimp only; omega)⟩, Nat.le_of_eq a4⟩
    by_cases h0 : (rdRead dat N ini cmp 4096 p).2.2 = 0
    · have h5 := h3.next (by rw [← hr]; exact h0)
      refine .step p O 0 _ h0 ?_
      rw [hr, hg']
      exact h5
    · have h5 := h3.last (by rw [← hr]; exact h0)
      rw [h5, ← hr]
      exact .stop p O 0 h0
  · rw [if_neg hg] at h1
    have hr : (rdRead dat N ini cmp 4096 p).2.2 = 2 := by
      unfold rdRead
      rw [rdNeed_stop dat N ini cmp p hb (by rw [h1]; decide), if_neg (by rw [h1]; decide), h1]
    refine ⟨_, .stop p O 0 (by rw [hr]; decide), ?_, ?_, Nat.zero_le _⟩
    · rw [hr, decide_eq_false hg]; rfl
    · rw [hr]; intro h; exact absurd h (by show ¬ decide ((2 : Nat) = 1) = true; decide)
end

/-! The bytes of such frames -/
def sizedF (n L : Nat) (tx : Nat → Nat) : Nat → Nat := fun i =>
  if i < 13 then [40, 181, 47, 253, 128, 104, n % 256, n / 256 % 256, n / 65536 % 256, n / 16777216 % 256, (8 * L + 1) % 256, (8 * L + 1) / 256 % 256, (8 * L + 1) / 65536 % 256].getD i 0 else tx (i - 13)

theorem noSkip {dat : Nat → Nat} {N p : Nat} (h : magicAt dat p = 4247762216) : skipTo dat N N p = p := by
  cases N with
  | zero => rfl
  | succ k => unfold skipTo wholeSkip isSkip; rw [h, if_neg (by simp)]

theorem sized_fr {dat tx : Nat → Nat} {L n : Nat} (hdt : ∀ i, i < 13 + L → dat i = sizedF n L tx i) (hL : L ≤ 131072) (hn : n < 4294967296) : Fr1 dat (13 + L) tx L n 10 false 8388608 0 := by
  have d : ∀ i, i < 13 → dat i = [40, 181, 47, 253, 128, 104, n % 256, n / 256 % 256, n / 65536 % 256, n / 16777216 % 256, (8 * L + 1) % 256, (8 * L + 1) / 256 % 256, (8 * L + 1) / 65536 % 256].getD i 0 := fun i hi => by
    rw [hdt i (by omega)]; unfold sizedF; rw [if_pos hi]
  have d0 : dat 0 = 40 := d 0 (by omega)
  have d1 : dat 1 = 181 := d 1 (by omega)
  have d2 : dat 2 = 47 := d 2 (by omega)
  have d3 : dat 3 = 253 := d 3 (by omega)
  have d4 : dat 4 = 128 := d 4 (by omega)
  have d5 : dat 5 = 104 := d 5 (by omega)
  have d6 : dat 6 = n % 256 := d 6 (by omega)
  have d7 : dat 7 = n / 256 % 256 := d 7 (by omega)
  have d8 : dat 8 = n / 65536 % 256 := d 8 (by omega)
  have d9 : dat 9 = n / 16777216 % 256 := d 9 (by omega)
  have d10 : dat 10 = (8 * L + 1) % 256 := d 10 (by omega)
  have d11 : dat 11 = (8 * L + 1) / 256 % 256 := d 11 (by omega)
  have d12 : dat 12 = (8 * L + 1) / 65536 % 256 := d 12 (by omega)
  have hm : magicAt dat 0 = 4247762216 := by unfold magicAt le4; simp only [Nat.zero_add, d0, d1, d2, d3]
  have hA : hAll 128 = 5 := by decide
  have hsz : hSize dat 128 6 = n := by
    unfold hSize
    rw [if_neg (by decide), if_neg (by decide), if_neg (by decide), if_pos (by decide)]
    unfold le4
    simp only [Nat.reduceAdd, d6, d7, d8, d9]
    omega
  refine ⟨?_, ?_, fun i hi => ?_, rfl, hL, .inr (by omega), fun h => absurd h (by decide)⟩
  · rw [noSkip hm]
    unfold hdrAt
    rw [if_neg (by omega), if_neg (by rw [hm]; decide), if_neg (by omega)]
    dsimp only
    rw [Nat.zero_add, d4, if_neg (by decide), hA, if_neg (by omega), show hZero dat (0 + 5 + hWin 128) (hDict 128) = true from rfl, if_neg (by decide)]
    rw [show 0 + 5 + hWin 128 + hDict 128 = 6 from rfl, hsz, show hSum 128 = false from rfl, show (hFcs 128 != 0) = true from rfl, show hSingle 128 = false from rfl, if_neg (by decide), Nat.zero_add, d5]
    rfl
  · unfold hdr3
    simp only [Nat.reduceAdd, d10, d11, d12]
    omega
  · rw [hdt _ (by omega)]; unfold sizedF; rw [if_neg (by omega), show 10 + 3 + i - 13 = i by omega]

def storedF (L x : Nat) (tx : Nat → Nat) : Nat → Nat := fun i =>
  if i < 12 then [40, 181, 47, 253, 164, L % 256, L / 256 % 256, L / 65536 % 256, L / 16777216 % 256, (8 * L + 1) % 256, (8 * L + 1) / 256 % 256, (8 * L + 1) / 65536 % 256].getD i 0
  else if i < 12 + L then tx (i - 12) else [x % 256, x / 256 % 256, x / 65536 % 256, x / 16777216 % 256].getD (i - (12 + L)) 0

theorem stored_fr {dat tx : Nat → Nat} {L x : Nat} (hdt : ∀ i, i < 16 + L → dat i = storedF L x tx i) (hL : L ≤ 131072) (hx : x < 4294967296) : Fr1 dat (16 + L) tx L L 9 true (min 8388608 L) x := by
  have d : ∀ i, i < 12 → dat i = [40, 181, 47, 253, 164, L % 256, L / 256 % 256, L / 65536 % 256, L / 16777216 % 256, (8 * L + 1) % 256, (8 * L + 1) / 256 % 256, (8 * L + 1) / 65536 % 256].getD i 0 := fun i hi => by
    rw [hdt i (by omega)]; unfold storedF; rw [if_pos hi]
  have e : ∀ i, i < 4 → dat (12 + L + i) = [x % 256, x / 256 % 256, x / 65536 % 256, x / 16777216 % 256].getD i 0 := fun i hi => by
    rw [hdt _ (by omega)]; unfold storedF; rw [if_neg (by omega), if_neg (by omega), show 12 + L + i - (12 + L) = i by omega]
  have d0 : dat 0 = 40 := d 0 (by omega)
  have d1 : dat 1 = 181 := d 1 (by omega)
  have d2 : dat 2 = 47 := d 2 (by omega)
  have d3 : dat 3 = 253 := d 3 (by omega)
  have d4 : dat 4 = 164 := d 4 (by omega)
  have d5 : dat 5 = L % 256 := d 5 (by omega)
  have d6 : dat 6 = L / 256 % 256 := d 6 (by omega)
  have d7 : dat 7 = L / 65536 % 256 := d 7 (by omega)
  have d8 : dat 8 = L / 16777216 % 256 := d 8 (by omega)
  have d9 : dat 9 = (8 * L + 1) % 256 := d 9 (by omega)
  have d10 : dat 10 = (8 * L + 1) / 256 % 256 := d 10 (by omega)
  have d11 : dat 11 = (8 * L + 1) / 65536 % 256 := d 11 (by omega)
  have e0 : dat (12 + L + 0) = x % 256 := e 0 (by omega)
  have e1 : dat (12 + L + 1) = x / 256 % 256 := e 1 (by omega)
  have e2 : dat (12 + L + 2) = x / 65536 % 256 := e 2 (by omega)
  have e3 : dat (12 + L + 3) = x / 16777216 % 256 := e 3 (by omega)
  have hm : magicAt dat 0 = 4247762216 := by unfold magicAt le4; simp only [Nat.zero_add, d0, d1, d2, d3]
  have hA : hAll 164 = 4 := by decide
  have hsz : hSize dat 164 5 = L := by
    unfold hSize
    rw [if_neg (by decide), if_neg (by decide), if_neg (by decide), if_pos (by decide)]
    unfold le4
    simp only [Nat.reduceAdd, d5, d6, d7, d8]
    omega
  refine ⟨?_, ?_, fun i hi => ?_, by rw [if_pos rfl]; omega, hL, .inr (by omega), fun _ => ?_⟩
  · rw [noSkip hm]
    unfold hdrAt
    rw [if_neg (by omega), if_neg (by rw [hm]; decide), if_neg (by omega)]
    dsimp only
    rw [Nat.zero_add, d4, if_neg (by decide), hA, if_neg (by omega), show hZero dat (0 + 5 + hWin 164) (hDict 164) = true from rfl, if_neg (by decide)]
    rw [show 0 + 5 + hWin 164 + hDict 164 = 5 from rfl, hsz, show hSum 164 = true from rfl, show (hFcs 164 != 0) = true from rfl, show hSingle 164 = true from rfl, if_pos rfl]
  · unfold hdr3
    simp only [Nat.reduceAdd, d9, d10, d11]
    omega
  · rw [hdt _ (by omega)]; unfold storedF; rw [if_neg (by omega), if_pos (by omega), show 9 + 3 + i - 12 = i by omega]
  · unfold le4
    simp only [show 9 + 3 + L = 12 + L by omega]
    rw [e0, e1, e2, e3]
    omega

def wakeF : Nat → Nat := fun i => [40, 181, 47, 253, 32, 2, 17, 0, 0, 104, 105].getD i 0
theorem wake_fr {dat : Nat → Nat} (hdt : ∀ i, i < 11 → dat i = wakeF i) : Fr1 dat 11 (fun i => [104, 105].getD i 0) 2 2 6 false 2 0 := by
  have d0 : dat 0 = 40 := hdt 0 (by omega)
  have d1 : dat 1 = 181 := hdt 1 (by omega)
  have d2 : dat 2 = 47 := hdt 2 (by omega)
  have d3 : dat 3 = 253 := hdt 3 (by omega)
  have d4 : dat 4 = 32 := hdt 4 (by omega)
  have d5 : dat 5 = 2 := hdt 5 (by omega)
  have d6 : dat 6 = 17 := hdt 6 (by omega)
  have d7 : dat 7 = 0 := hdt 7 (by omega)
  have d8 : dat 8 = 0 := hdt 8 (by omega)
  have hm : magicAt dat 0 = 4247762216 := by unfold magicAt le4; simp only [Nat.zero_add, d0, d1, d2, d3]
  have hA : hAll 32 = 1 := by decide
  have hsz : hSize dat 32 5 = 2 := by
    unfold hSize
    rw [if_neg (by decide), if_pos (by decide), d5]
  refine ⟨?_, ?_, fun i hi => ?_, rfl, by omega, .inr (by omega), fun h => absurd h (by decide)⟩
  · rw [noSkip hm]
    unfold hdrAt
    rw [if_neg (by omega), if_neg (by rw [hm]; decide), if_neg (by omega)]
    dsimp only
    rw [Nat.zero_add, d4, if_neg (by decide), hA, if_neg (by omega), show hZero dat (0 + 5 + hWin 32) (hDict 32) = true from rfl, if_neg (by decide)]
    rw [show 0 + 5 + hWin 32 + hDict 32 = 5 from rfl, hsz, show hSum 32 = false from rfl, show (hFcs 32 != 0) = true from rfl, show hSingle 32 = true from rfl, if_pos rfl]
    rfl
  · unfold hdr3
    simp only [Nat.reduceAdd, d6, d7, d8]
  · match i, hi with
    | 0, _ => exact hdt 9 (by omega)
    | 1, _ => exact hdt 10 (by omega)
end Go.Proofs.YtogmacnlpclgkaaDoor

/-! WALKS 28: impl.Read; frames of one block of bytes as they are. -/
namespace Go.Proofs.YtogmacnlpclgkaaDoor
open Go Go.Eng
attribute [local irreducible] RO J Trip Quiet
set_option maxRecDepth 20000
variable {G : Mem} {dat : Nat → Nat} {N : Nat}

/-- A new Reader. -/
def PS.init {E : Type} (e : E) : PS E where
  pos := 0
  saw := false
  sum := false
  one := false
  unk := false
  rem := 0
  S := fun _ => 0
  bl := 0
  off := 0
  L := fun _ => 0
  wl := 0
  wsz := 0
  XT := fun _ => 0
  XN := 0
  e := e

theorem init_rdM (S : Sent G) (oa : Option Addr) (cp bb : Nat) (hv : View G oa N cp dat) (hN : N < 2 ^ 60) {E : Type} (Ext : E → RX → Mem → Prop) (e0 : E) (he : Ext e0 RS.zero.ext []) (rb : Nat) :
    RdM (bsrc S dat oa N cp bb hv hN) Ext rb (PS.init e0) ((rb, rdB 0 (RS.zero.reset (.iface 65 (.pointer (some ⟨bb, 0, none⟩))) (.slice none 0 0))) :: [(bb, brB oa N cp 0)]) :=
  ⟨0, _, (0 : Nat), [], [], [], rfl, Nat.zero_le _, rfl, rfl, fun _ => by show 0 < 256; omega, ⟨rfl, rfl, rfl, rfl, rfl, rfl, rfl⟩, q64_pos, fun _ => by show 0 < 256; omega, Nat.zero_le _, Nat.zero_le _,
    .inl ⟨rfl, rfl, rfl, fun _ => rfl⟩, ⟨fun _ => 0, .inl ⟨rfl, rfl, rfl⟩, Nat.zero_le _, Nat.le_refl _, fun _ => rfl, fun i hi => absurd hi (Nat.not_lt_zero _)⟩, fun h => absurd (show false = true from h) (by decide), he⟩

theorem implRead_t (S : Sent G) (hd : ∀ i, dat i < 256) (oa : Option Addr) (cp : Nat) (hv : View G oa N cp dat) (hN : N < 2 ^ 60) {E : Type} (Ext : E → RX → Mem → Prop) (cmp : PS E → Nat → PS E × Bool) (can : PS E → Nat → Prop) (hcmp : ∀ bb, CmpT (bsrc S dat oa N cp bb hv hN) Ext cmp can) (hgo : CmpGo N cmp)
    (ini : E → E) (hini : ∀ e x em, Ext e x em → Ext (ini e) x.ini em) (fb : Blk) (hfb : (2, fb) ∈ G) (hfn : 0 < fb.n) (hfv : fb.g 0 = .bool false)
    (Ok : PS E → Prop) (hOk : OkS dat N ini cmp can Ok) (e0 : E) (he : Ext e0 RS.zero.ext []) (hp : Ok (PS.init e0)) (r : (Nat → Nat) × Nat × Bool) (O0 : Nat → Nat) (hr : AllR dat N ini cmp 4096 (PS.init e0) O0 0 r) (hl : r.2.1 ≤ 2 ^ 39) :
    Trip Tryd.prog G 12 #[.slice oa N cp] [] (fun v om => ∃ out, v = .tuple #[out, .bool r.2.2] ∧ SlM 1 out r.2.1 (u8f r.1) om) := by
  refine Trip_of Tryd.func12 rfl (by show 1 ≤ _; decide) (args := [.slice oa N cp]) fun c h0 hex => ?_
  refine go _ ?_
  refine ro_callT (bnew_t oa N cp) ?_
  rintro v m ⟨bb, rfl, rfl⟩
  refine go _ ?_
  refine ro_callT (newReader_t G 65 (.pointer (some ⟨bb, 0, none⟩))) ?_
  rintro v m ⟨rb, rfl, rfl⟩
  refine go _ ?_
  refine ro_callT (all_t (bsrc S dat oa N cp bb hv hN) hd (bskip_t S dat hd oa N cp bb hv hN) Ext cmp can (hcmp bb) hgo ini hini fb hfb hfn hfv (by omega) Ok hOk rb _ _ (init_rdM S oa cp bb hv hN Ext e0 he rb) hp r O0 hr hl) ?_ (fm := []) (hs := .refl _)
  rintro v om ⟨out, rfl, hsl⟩
  obtain ⟨oa', cp', rfl⟩ := slmForm hsl
  rw [List.append_nil]
  refine go _ ?_
  refine J_ret ?_
  exact ends_retS [2, 3] (post := om) (junk := []) ⟨_, rfl, hsl⟩ rfl (by rw [List.append_nil]; exact MEqv.refl _)

/-! Frames of one block of bytes as they are -/
def rawCmp : PS Unit → Nat → PS Unit × Bool := fun p _ => (p, false)
theorem rawGo : CmpGo N rawCmp := fun _ _ h => absurd (show false = true from h) (by decide)
theorem raw_ok {tx : Nat → Nat} {L n hl : Nat} {sum : Bool} {win x : Nat} (h : Fr1 dat N tx L n hl sum win x) :
    OkS dat N (fun e : Unit => e) rawCmp (fun _ _ => False) (fun p => p.saw = false ∧ (p.pos = 0 ∨ p.pos = N)) where
  can := by
    rintro p ⟨hs, hp⟩ h0
    by_cases hp0 : p.pos = 0
    · rw [fr1_hd h p hs hp0]
      intro _ h2
      dsimp only at h2
      rw [h.blk] at h2
      omega
    · have hp := hp.resolve_left hp0
      exfalso
      unfold rdHd at h0
      rw [if_neg (by rw [hs]; decide)] at h0
      unfold rdHdr at h0
      rw [hp, skip_end, hdr_end] at h0
      dsimp only at h0
      split at h0 <;> omega
  fill := by
    rintro p ⟨hs, hp⟩ h0
    by_cases hp0 : p.pos = 0
    · obtain ⟨a1, a2, _⟩ := (fr1_fill (ini := fun e : Unit => e) (cmp := rawCmp) h p hs hp0).2 h0
      exact ⟨a1, .inr a2⟩
    · have hp := hp.resolve_left hp0
      exfalso
      have hh : (rdHd dat N (fun e : Unit => e) p).2 ≠ 0 := by
        unfold rdHd
        rw [if_neg (by rw [hs]; decide)]
        unfold rdHdr
        rw [hp, skip_end, hdr_end]
        dsimp only
        split <;> omega
      unfold rdFill at h0
      rw [if_neg hh] at h0
      exact hh h0
  off := fun _ _ h => h

theorem rawRead_t (S : Sent G) (hd : ∀ i, dat i < 256) (oa : Option Addr) (cp : Nat) (hv : View G oa N cp dat) (fb : Blk) (hfb : (2, fb) ∈ G) (hfn : 0 < fb.n) (hfv : fb.g 0 = .bool false)
    {tx : Nat → Nat} {L n hl : Nat} {sum : Bool} {win x : Nat} (h : Fr1 dat N tx L n hl sum win x) (hN : N < 2 ^ 60) :
    Trip Tryd.prog G 12 #[.slice oa N cp] [] (fun v om => ∃ out l D, v = .tuple #[out, .bool (decide (n = L ∧ (sum = true → x = xdig tx L % 4294967296)))] ∧ SlM 1 out l (u8f D) om ∧
      ((n = L ∧ (sum = true → x = xdig tx L % 4294967296)) → l = L ∧ ∀ i, i < L → D i = tx i)) := by
  obtain ⟨r, h1, h2, h3, h4⟩ := fr1_all (ini := fun e : Unit => e) rawGo h (PS.init ()) rfl rfl (by show ¬ (0 : Nat) < 0; omega) (fun _ => 0)
  have hle := h.le
  refine (implRead_t S hd oa cp hv hN (fun (_ : Unit) _ em => em = []) rawCmp (fun _ _ => False) (fun bb => fun _ _ _ _ _ hf => absurd hf id) rawGo (fun e => e) (fun _ _ _ h => h) fb hfb hfn hfv _ (raw_ok h) () rfl ⟨rfl, .inl rfl⟩ r (fun _ => 0) h1 (by omega)).mono ?_
  rintro v om ⟨out, rfl, hsl⟩
  refine ⟨out, r.2.1, r.1, by rw [h2], hsl, fun hg => ?_⟩
  exact h3 (by rw [h2, decide_eq_true hg])
end Go.Proofs.YtogmacnlpclgkaaDoor

/-! PLAIN LAWS 1: bits of bytes. -/
namespace Go.Pz

/-- The bit at place q of bytes. -/
def bit (d : Nat → Nat) (q : Nat) : Nat := d (q / 8) / 2 ^ (q % 8) % 2
/-- The number of k bits from place q on, the first one as the lowest. -/
def bitsAt (d : Nat → Nat) : Nat → Nat → Nat
  | _, 0 => 0
  | q, k + 1 => bit d q + 2 * bitsAt d (q + 1) k

theorem bit_lt (d : Nat → Nat) (q : Nat) : bit d q < 2 := Nat.mod_lt _ (by omega)
theorem bitsAt_lt (d : Nat → Nat) : ∀ (k q : Nat), bitsAt d q k < 2 ^ k
  | 0, _ => by simp [bitsAt]
  | k + 1, q => by
    have := bitsAt_lt d k (q + 1)
    have := bit_lt d q
    rw [bitsAt, Nat.pow_succ]; omega
theorem bitsAt_add (d : Nat → Nat) : ∀ (a b q : Nat), bitsAt d q (a + b) = bitsAt d q a + 2 ^ a * bitsAt d (q + a) b
  | 0, b, q => by simp [bitsAt]
  | a + 1, b, q => by
    rw [show a + 1 + b = (a + b) + 1 by omega, bitsAt, bitsAt_add d a b (q + 1), bitsAt, Nat.pow_succ]
    rw [show q + 1 + a = q + (a + 1) by omega]
    have : 2 ^ a * 2 * bitsAt d (q + (a + 1)) b = 2 * (2 ^ a * bitsAt d (q + (a + 1)) b) := by rw [Nat.mul_comm (2 ^ a) 2, Nat.mul_assoc]
    omega
theorem bitsAt_succ (d : Nat → Nat) (k q : Nat) : bitsAt d q (k + 1) = bitsAt d q k + 2 ^ k * bit d (q + k) := by
  rw [bitsAt_add d k 1 q]; simp [bitsAt]
theorem bitsAt_mod (d : Nat → Nat) (q : Nat) {j k : Nat} (h : j ≤ k) : bitsAt d q k % 2 ^ j = bitsAt d q j := by
  obtain ⟨b, rfl⟩ : ∃ b, k = j + b := ⟨k - j, by omega⟩
  rw [bitsAt_add, Nat.add_mul_mod_self_left, Nat.mod_eq_of_lt (bitsAt_lt d j q)]
theorem bitsAt_div (d : Nat → Nat) (q : Nat) {j k : Nat} (h : j ≤ k) : bitsAt d q k / 2 ^ j = bitsAt d (q + j) (k - j) := by
  obtain ⟨b, rfl⟩ : ∃ b, k = j + b := ⟨k - j, by omega⟩
  rw [bitsAt_add, Nat.add_mul_div_left _ _ (Nat.pow_pos (by omega)), Nat.div_eq_of_lt (bitsAt_lt d j q)]
  simp
theorem bitsAt_byteAux (d : Nat → Nat) (i : Nat) : ∀ (k j : Nat), j + k ≤ 8 → bitsAt d (8 * i + j) k = d i / 2 ^ j % 2 ^ k
  | 0, j, _ => by simp [bitsAt, Nat.mod_one]
  | k + 1, j, h => by
    rw [bitsAt, show 8 * i + j + 1 = 8 * i + (j + 1) by omega, bitsAt_byteAux d i k (j + 1) (by omega)]
    unfold bit
    rw [show (8 * i + j) / 8 = i by omega, show (8 * i + j) % 8 = j by omega]
    have h1 : d i / 2 ^ (j + 1) = d i / 2 ^ j / 2 := by rw [Nat.pow_succ, Nat.div_div_eq_div_mul]
    rw [h1]
    generalize d i / 2 ^ j = x
    rw [Nat.pow_succ, Nat.mul_comm (2 ^ k) 2, Nat.mod_mul]
theorem bitsAt_byte (d : Nat → Nat) (hd : ∀ i, d i < 256) (i : Nat) : bitsAt d (8 * i) 8 = d i := by
  have := bitsAt_byteAux d i 8 0 (by omega)
  rw [Nat.add_zero] at this
  rw [this, Nat.pow_zero, Nat.div_one, Nat.mod_eq_of_lt (hd i)]
/-- A byte behind k bits. -/
theorem bitsAt_push (d : Nat → Nat) (hd : ∀ i, d i < 256) (q k i : Nat) (h : q + k = 8 * i) : bitsAt d q (k + 8) = bitsAt d q k + 2 ^ k * d i := by
  rw [bitsAt_add, h, bitsAt_byte d hd]
/-- A byte ahead of k bits. -/
theorem bitsAt_before (d : Nat → Nat) (hd : ∀ i, d i < 256) (i k : Nat) : bitsAt d (8 * i) (8 + k) = d i + 256 * bitsAt d (8 * (i + 1)) k := by
  rw [bitsAt_add, bitsAt_byte d hd]; rfl
theorem bitsAt_congr {d d' : Nat → Nat} : ∀ (k q : Nat), (∀ i, q / 8 ≤ i → i < (q + k + 7) / 8 → d i = d' i) → bitsAt d q k = bitsAt d' q k
  | 0, _, _ => rfl
  | k + 1, q, h => by
    rw [bitsAt, bitsAt, bitsAt_congr k (q + 1) (fun i h1 h2 => h i (by omega) (by omega))]
    unfold bit
    rw [h (q / 8) (by omega) (by omega)]

end Go.Pz
