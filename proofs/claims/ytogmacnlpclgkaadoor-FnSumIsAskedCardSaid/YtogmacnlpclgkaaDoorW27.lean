/-
  WALKS 27: impl.step, all, Read.
-/
import Derived.Test.YtogmacnlpclgkaaDoorW26
import Derived.Test.YtogmacnlpclgkaaDoorW13
namespace Go.Proofs.YtogmacnlpclgkaaDoor
open Go Go.Eng
attribute [local irreducible] RO J Trip Quiet
set_option maxRecDepth 20000
variable {G : Mem} {S : Sent G} {dat : Nat → Nat} {N : Nat}

/-- A call of Read, as impl.step tells it. -/
theorem step_t (src : Source S dat N) (hd : ∀ i, dat i < 256) (hsk : SkipT src) {E : Type} (Ext : E → RX → Mem → Prop) (cmp : PS E → Nat → PS E × Bool) (can : PS E → Nat → Prop) (hcmp : CmpT src Ext cmp can) (hgo : CmpGo N cmp)
    (ini : E → E) (hini : ∀ e x em, Ext e x em → Ext (ini e) x.ini em) (fb : Blk) (hfb : (2, fb) ∈ G) (hfn : 0 < fb.n) (hfv : fb.g 0 = .bool false) (hN : N ≤ 2 ^ 62)
    (Ok : PS E → Prop) (hOk : OkS dat N ini cmp can Ok) (rb : Nat) (p : PS E) (m : Mem) (hm : RdM src Ext rb p m) (hp : Ok p) (n : Nat) (hn : n ≤ 2 ^ 40) :
    Trip Tryd.prog G 27 #[.pointer (some ⟨rb, 0, none⟩), .int .i64 (n : Nat)] m (fun v m' => ∃ m2 b B, RdM src Ext rb (rdRead dat N ini cmp n p).1 m2 ∧ m' = (b, B) :: m2 ∧
      v = .agg #[.int .i64 ((rdRead dat N ini cmp n p).2.1 : Nat), .slice (some ⟨b, 0, none⟩) (rdRead dat N ini cmp n p).2.1 n, .int .i64 ((rdRead dat N ini cmp n p).2.2 : Nat)] ∧ B.fr = (0, 0) ∧ n ≤ B.n ∧ (rdRead dat N ini cmp n p).2.1 ≤ n ∧
      (∀ i, i < (rdRead dat N ini cmp n p).2.1 → B.g i = u8f (rdGot dat N ini cmp p) i) ∧ ((rdRead dat N ini cmp n p).2.2 = 0 → Ok (rdRead dat N ini cmp n p).1)) := by
  refine Trip_of Tryd.func27 rfl (by show 2 ≤ _; decide) (args := [.pointer (some ⟨rb, 0, none⟩), .int .i64 (n : Nat)]) fun c h0 hex => ?_
  refine go _ ?_
  refine ro_alloc z49 rfl hex fun cb hcb => ?_
  refine go _ ?_
  refine J_condP rfl (fun hneg => absurd hneg (by omega)) (fun _ => ?_)
  refine go _ ?_
  refine ro_make (len := n) (cap := n) rfl rfl rfl rfl z5 (by decide) (Nat.le_refl _) hn hex rfl fun b hb => ?_
  refine go _ ?_
  refine ro_callT (read_t src hd hsk Ext cmp can hcmp hgo ini hini fb hfb hfn hfv hN Ok hOk rb p m hm hp b 0 n n ⟨n * (0 + 1), zerosG [.int .u8 0], 5, (0, 0)⟩ rfl (by show _ ≤ n * (0 + 1); omega) hn) ?_
  rintro v m' ⟨m2, e, hm2, rfl, rfl, he, hok2⟩
  have hkn : (rdRead dat N ini cmp n p).2.1 ≤ n := by
    unfold rdRead; split
    · exact Nat.min_le_left _ _
    · exact Nat.zero_le _
  generalize rdRead dat N ini cmp n p = r at hm2 he hok2 hkn ⊢
  generalize rdGot dat N ini cmp p = D
  obtain ⟨p2, k, code⟩ := r
  dsimp only at hm2 he hok2 hkn ⊢
  refine RO_eqv (swap1 _ _).symm (fun _ h => J_eqv (swap1 _ _).symm h) ?_
  rcases he with ⟨rfl, rfl⟩ | ⟨rfl, he'⟩ | ⟨rfl, he'⟩
  · have he : EndV S 0 (.nilIface) := .inl ⟨rfl, rfl⟩
    refine go _ ?_
    refine ro_min rfl rfl rfl ?_
    rw [if_neg (by omega)]
    refine go _ ?_
    refine ro_max rfl rfl rfl ?_
    rw [show (if ((k : Nat) : Int) > 0 then ((k : Nat) : Int) else 0) = ((k : Nat) : Int) by split <;> omega]
    refine go _ ?_
    refine ro_callT (end_t S _ _ he) ?_
    rintro v m ⟨rfl, rfl⟩
    refine go _ ?_
    refine ro_build1 (vs := [.int .i64 (k : Nat), .slice (some ⟨b, 0, none⟩) k n, .int .i64 ((0 : Nat) : Int)]) rfl rfl z49 rfl rfl rfl rfl ?_
    refine go _ ?_
    refine ro_storeAgg (s := 2) (vs := [.int .i64 (k : Nat), .slice (some ⟨b, 0, none⟩) k n, .int .i64 ((0 : Nat) : Int)]) rfl rfl rfl rfl (fun v hv => by simp only [List.mem_cons, List.not_mem_nil, or_false] at hv; rcases hv with rfl | rfl | rfl <;> rfl) .here (Nat.le_refl 3) rfl hex ?_
    refine go _ ?_
    refine J_ret ?_
    refine ends_retC [.cell 4 49] [.agg #[.int .i64 (k : Nat), .slice (some ⟨b, 0, none⟩) k n, .int .i64 ((0 : Nat) : Int)]] ⟨⟨cb, 0, 2, _, rfl, rfl, rfl, List.mem_cons_self, Nat.le_refl 3, rfl⟩, trivial⟩ (post := (b, _) :: m2) (junk := [(cb, ⟨3, blit (listG [.int .i64 0, .slice none 0 0, .int .i64 0]) 0 3 (listG [.int .i64 (k : Nat), .slice (some ⟨b, 0, none⟩) k n, .int .i64 ((0 : Nat) : Int)]), 49, (0, 0)⟩)]) ⟨m2, b, _, hm2, rfl, rfl, rfl, by show n ≤ n * (0 + 1); omega, hkn, fun i hi => ?_, hok2⟩ rfl (swap1 _ _)
    show blit _ 0 k _ i = _
    rw [blit_in _ _ _ _ _ (by omega) (by omega)]; rfl
  · obtain rfl : e = .iface 122 (.pointer (some ⟨S.eb, S.eo, none⟩)) := he'
    have he : EndV S 1 (.iface 122 (.pointer (some ⟨S.eb, S.eo, none⟩))) := .inr (.inl ⟨rfl, rfl⟩)
    refine go _ ?_
    refine ro_min rfl rfl rfl ?_
    rw [if_neg (by omega)]
    refine go _ ?_
    refine ro_max rfl rfl rfl ?_
    rw [show (if ((k : Nat) : Int) > 0 then ((k : Nat) : Int) else 0) = ((k : Nat) : Int) by split <;> omega]
    refine go _ ?_
    refine ro_callT (end_t S _ _ he) ?_
    rintro v m ⟨rfl, rfl⟩
    refine go _ ?_
    refine ro_build1 (vs := [.int .i64 (k : Nat), .slice (some ⟨b, 0, none⟩) k n, .int .i64 ((1 : Nat) : Int)]) rfl rfl z49 rfl rfl rfl rfl ?_
    refine go _ ?_
    refine ro_storeAgg (s := 2) (vs := [.int .i64 (k : Nat), .slice (some ⟨b, 0, none⟩) k n, .int .i64 ((1 : Nat) : Int)]) rfl rfl rfl rfl (fun v hv => by simp only [List.mem_cons, List.not_mem_nil, or_false] at hv; rcases hv with rfl | rfl | rfl <;> rfl) .here (Nat.le_refl 3) rfl hex ?_
    refine go _ ?_
    refine J_ret ?_
    refine ends_retC [.cell 4 49] [.agg #[.int .i64 (k : Nat), .slice (some ⟨b, 0, none⟩) k n, .int .i64 ((1 : Nat) : Int)]] ⟨⟨cb, 0, 2, _, rfl, rfl, rfl, List.mem_cons_self, Nat.le_refl 3, rfl⟩, trivial⟩ (post := (b, _) :: m2) (junk := [(cb, ⟨3, blit (listG [.int .i64 0, .slice none 0 0, .int .i64 0]) 0 3 (listG [.int .i64 (k : Nat), .slice (some ⟨b, 0, none⟩) k n, .int .i64 ((1 : Nat) : Int)]), 49, (0, 0)⟩)]) ⟨m2, b, _, hm2, rfl, rfl, rfl, by show n ≤ n * (0 + 1); omega, hkn, fun i hi => ?_, hok2⟩ rfl (swap1 _ _)
    show blit _ 0 k _ i = _
    rw [blit_in _ _ _ _ _ (by omega) (by omega)]; rfl
  · obtain ⟨b', rfl⟩ := he'
    have he : EndV S 2 (.iface 108 (.pointer (some ⟨b', 0, none⟩))) := .inr (.inr ⟨rfl, b', rfl⟩)
    refine go _ ?_
    refine ro_min rfl rfl rfl ?_
    rw [if_neg (by omega)]
    refine go _ ?_
    refine ro_max rfl rfl rfl ?_
    rw [show (if ((k : Nat) : Int) > 0 then ((k : Nat) : Int) else 0) = ((k : Nat) : Int) by split <;> omega]
    refine go _ ?_
    refine ro_callT (end_t S _ _ he) ?_
    rintro v m ⟨rfl, rfl⟩
    refine go _ ?_
    refine ro_build1 (vs := [.int .i64 (k : Nat), .slice (some ⟨b, 0, none⟩) k n, .int .i64 ((2 : Nat) : Int)]) rfl rfl z49 rfl rfl rfl rfl ?_
    refine go _ ?_
    refine ro_storeAgg (s := 2) (vs := [.int .i64 (k : Nat), .slice (some ⟨b, 0, none⟩) k n, .int .i64 ((2 : Nat) : Int)]) rfl rfl rfl rfl (fun v hv => by simp only [List.mem_cons, List.not_mem_nil, or_false] at hv; rcases hv with rfl | rfl | rfl <;> rfl) .here (Nat.le_refl 3) rfl hex ?_
    refine go _ ?_
    refine J_ret ?_
    refine ends_retC [.cell 4 49] [.agg #[.int .i64 (k : Nat), .slice (some ⟨b, 0, none⟩) k n, .int .i64 ((2 : Nat) : Int)]] ⟨⟨cb, 0, 2, _, rfl, rfl, rfl, List.mem_cons_self, Nat.le_refl 3, rfl⟩, trivial⟩ (post := (b, _) :: m2) (junk := [(cb, ⟨3, blit (listG [.int .i64 0, .slice none 0 0, .int .i64 0]) 0 3 (listG [.int .i64 (k : Nat), .slice (some ⟨b, 0, none⟩) k n, .int .i64 ((2 : Nat) : Int)]), 49, (0, 0)⟩)]) ⟨m2, b, _, hm2, rfl, rfl, rfl, by show n ≤ n * (0 + 1); omega, hkn, fun i hi => ?_, hok2⟩ rfl (swap1 _ _)
    show blit _ 0 k _ i = _
    rw [blit_in _ _ _ _ _ (by omega) (by omega)]; rfl

/-! Progress -/
section
variable {E : Type} {ini : E → E} {cmp : PS E → Nat → PS E × Bool}
theorem rdNeed_prog (hc : CmpGo N cmp) : ∀ f (p : PS E), (rdNeed dat N ini cmp f p).2 = 0 → ((rdNeed dat N ini cmp f p).1 = p ∨ N - (rdNeed dat N ini cmp f p).1.pos < N - p.pos) ∧ (rdNeed dat N ini cmp f p).1.off < (rdNeed dat N ini cmp f p).1.bl
  | 0, p, h => absurd h (by show ¬ (2 : Nat) = 0; decide)
  | f + 1, p, h => by
    rw [rdNeed_eq] at h ⊢
    by_cases h1 : p.off < p.bl
    · rw [if_pos h1]; exact ⟨.inl rfl, h1⟩
    · rw [if_neg h1] at h ⊢
      by_cases h2 : (rdFill dat N ini cmp p).2 = 0
      · rw [if_pos h2] at h ⊢
        have h3 := rdFill_pos dat N ini cmp hc p h2
        obtain ⟨h4, h5⟩ := rdNeed_prog hc f _ h
        refine ⟨.inr ?_, h5⟩
        rcases h4 with h4 | h4
        · rw [h4]; exact h3
        · exact Nat.lt_trans h4 h3
      · rw [if_neg h2] at h; exact absurd h h2
def rdMeas (N : Nat) (p : PS E) : Nat := (N - p.pos) * 2147483648 + (p.bl - p.off)
theorem rdRead_prog (hc : CmpGo N cmp) (n : Nat) (hn : 0 < n) (p : PS E) (h : (rdRead dat N ini cmp n p).2.2 = 0) (hb : (rdRead dat N ini cmp n p).1.bl ≤ 2 ^ 30) : rdMeas N (rdRead dat N ini cmp n p).1 < rdMeas N p := by
  unfold rdRead at h hb ⊢
  by_cases h0 : (rdNeed dat N ini cmp (N + 1) p).2 = 0
  · obtain ⟨h1, h2⟩ := rdNeed_prog hc (N + 1) p h0
    rw [if_pos h0] at hb ⊢
    dsimp only at hb ⊢
    unfold rdMeas
    dsimp only
    rcases h1 with h1 | h1
    · rw [h1] at h2 ⊢; omega
    · omega
  · rw [if_neg h0] at h
    exact absurd h h0
theorem rdRead_zero (n : Nat) (p : PS E) (h : (rdRead dat N ini cmp n p).2.2 ≠ 0) : (rdRead dat N ini cmp n p).2.1 = 0 := by
  unfold rdRead at h ⊢
  split at h
  · exact absurd rfl h
  · rename_i h0; rw [if_neg h0]
end

theorem mAll (x y : Nat × Blk) (m j s : Mem) : MEqv ((x :: y :: (m ++ j)) ++ s) (m ++ (s ++ (x :: y :: j))) := by
  have h : ((x :: y :: (m ++ j)) ++ s).Perm (m ++ (s ++ (x :: y :: j))) := by
    have e1 : (x :: y :: (m ++ j)) ++ s = [x, y] ++ (m ++ (j ++ s)) := by simp
    rw [e1]
    refine (pA [x, y] m (j ++ s)).trans (List.Perm.append_left m ?_)
    rw [← List.append_assoc]
    exact List.perm_append_comm
  exact .of_perm h

structure AllS (E : Type) where
  p : PS E
  m : Mem
  om : Mem
  j : Mem
  oa : Option Addr
  cp : Nat
  O : Nat → Nat
  ol : Nat

set_option maxHeartbeats 1000000 in
theorem all_t (src : Source S dat N) (hd : ∀ i, dat i < 256) (hsk : SkipT src) {E : Type} (Ext : E → RX → Mem → Prop) (cmp : PS E → Nat → PS E × Bool) (can : PS E → Nat → Prop) (hcmp : CmpT src Ext cmp can) (hgo : CmpGo N cmp)
    (ini : E → E) (hini : ∀ e x em, Ext e x em → Ext (ini e) x.ini em) (fb : Blk) (hfb : (2, fb) ∈ G) (hfn : 0 < fb.n) (hfv : fb.g 0 = .bool false) (hN : N ≤ 2 ^ 62)
    (Ok : PS E → Prop) (hOk : OkS dat N ini cmp can Ok) (rb : Nat) (p : PS E) (m : Mem) (hm : RdM src Ext rb p m) (hp : Ok p) (r : (Nat → Nat) × Nat × Bool) (O0 : Nat → Nat) (hr : AllR dat N ini cmp 4096 p O0 0 r) (hl : r.2.1 ≤ 2 ^ 39) :
    Trip Tryd.prog G 23 #[.pointer (some ⟨rb, 0, none⟩)] m (fun v om => ∃ out, v = .tuple #[out, .bool r.2.2] ∧ SlM 1 out r.2.1 (u8f r.1) om) := by
  refine Trip_of Tryd.func23 rfl (by show 1 ≤ _; decide) (args := [.pointer (some ⟨rb, 0, none⟩)]) fun c h0 hex => ?_
  refine go _ ?_
  refine J_loopL (σ := AllS E) [] (fun t => [(0, .pointer (some ⟨rb, 0, none⟩)), (4, .slice t.oa t.ol t.cp)]) (fun t => t.m ++ (t.om ++ t.j))
    (fun t => RdM src Ext rb t.p t.m ∧ Ok t.p ∧ SlM 1 (.slice t.oa t.ol t.cp) t.ol (u8f t.O) t.om ∧ AllR dat N ini cmp 4096 t.p t.O t.ol r) (fun t => rdMeas N t.p) ⟨p, m, [], [], none, 0, O0, 0⟩ (by simpa using MEqv.refl m) ⟨hm, hp, .inl ⟨rfl, rfl, rfl⟩, hr⟩ ?_
  rintro ⟨p1, m1, om, j1, oa, cp, O, ol⟩ f ⟨hm1, hp1, hsl, hAll⟩
  dsimp only at hm1 hp1 hsl hAll ⊢
  have hge := hAll.ge
  refine go _ ?_
  refine ro_callT (step_t src hd hsk Ext cmp can hcmp hgo ini hini fb hfb hfn hfv hN Ok hOk rb p1 m1 hm1 hp1 4096 (by omega)) ?_ (fm := om ++ j1) (hs := .refl _)
  rintro v m' ⟨m2, b, B, hm2, rfl, rfl, hBf, hBn, hk, hg, hok2⟩
  have hpr := rdRead_prog (dat := dat) (ini := ini) hgo 4096 (by omega) p1
  have hnx := hAll.next
  have hls := hAll.last
  have hz := rdRead_zero (dat := dat) (N := N) (ini := ini) (cmp := cmp) 4096 p1
  generalize rdGot dat N ini cmp p1 = D at hg hnx
  generalize rdRead dat N ini cmp 4096 p1 = rr at hm2 hk hg hok2 hpr hnx hls hz ⊢
  obtain ⟨p2, k, code⟩ := rr
  dsimp only at hm2 hk hg hok2 hpr hnx hls hz ⊢
  have hol : ol + k ≤ 2 ^ 40 := by omega
  have hbl2 : p2.bl ≤ 2 ^ 30 := by
    obtain ⟨_, _, _, _, _, _, _, _, _, _, _, _, _, _, h, _⟩ := hm2
    exact h
  refine go _ ?_
  refine ro_alloc z49 rfl hex fun cb hcb => ?_
  refine go _ ?_
  refine ro_storeAgg (s := 2) (vs := [.int .i64 (k : Nat), .slice (some ⟨b, 0, none⟩) k 4096, .int .i64 (code : Nat)]) rfl rfl rfl rfl (fun v hv => by simp only [List.mem_cons, List.not_mem_nil, or_false] at hv; rcases hv with rfl | rfl | rfl <;> rfl) .here (Nat.le_refl 3) rfl hex ?_
  refine go _ ?_
  refine RO_eqv (m' := (cb, listB [.int .i64 (k : Nat), .slice (some ⟨b, 0, none⟩) k 4096, .int .i64 (code : Nat)] 49) :: (b, B) :: (m2 ++ (om ++ j1))) ?hM ?hQ ?hR
  case hM => exact .cons (blk_tab rfl rfl rfl rfl) (.refl _)
  case hQ => intro f h; refine J_eqv ?_ h; exact .cons (blk_tab rfl rfl rfl rfl) (.refl _)
  refine go _ ?_
  refine ro_appendMF (s := 0) (src := fun j => B.g (0 + j)) (k := k) (len := ol) (v := .slice oa ol cp) (cl := u8f O) (sm := om) (fm := (cb, listB [.int .i64 (k : Nat), .slice (some ⟨b, 0, none⟩) k 4096, .int .i64 (code : Nat)] 49) :: (b, B) :: (m2 ++ j1)) rfl rfl rfl rfl z5 (by decide) rfl rfl hsl
    (pA ((cb, listB [.int .i64 (k : Nat), .slice (some ⟨b, 0, none⟩) k 4096, .int .i64 (code : Nat)] 49) :: (b, B) :: m2) om j1) (Src.of (B := B) (by simp) (by omega)) (fun j hj => by rw [Nat.zero_add, hg j (by omega)]; rfl) hol hex rfl ?_
  intro v' sm' hv' hone'
  obtain ⟨oa', cp', rfl⟩ := slmForm hv'
  refine go _ ?_
  refine J_condP rfl (fun hne => ?_) (fun heq => ?_)
  · have hne' : code ≠ 0 := by omega
    have hk0 := hz hne'
    have hr' := hls hne'
    subst hk0 hr'
    refine go _ ?_
    refine J_ret ?_
    refine ends_retS [2, 3] (post := sm') (junk := (cb, listB [.int .i64 ((0 : Nat) : Int), .slice (some ⟨b, 0, none⟩) 0 4096, .int .i64 (code : Nat)] 49) :: (b, B) :: (m2 ++ j1)) ⟨.slice oa' (ol + 0) cp', ?_, slmCongr hv' fun i hi => ?_⟩ rfl (.of_perm List.perm_append_comm)
    · show Value.tuple #[.slice oa' (ol + 0) cp', .bool (decide (((code : Nat) : Int) = 1))] = Value.tuple #[.slice oa' (ol + 0) cp', .bool (decide (code = 1))]
      rw [show decide (((code : Nat) : Int) = 1) = decide (code = 1) by rw [decide_eq_decide]; omega]
    · rw [if_pos (by omega)]
  · have heq' : code = 0 := by omega
    refine go _ ?_
    refine ⟨⟨p2, m2, sm', (cb, _) :: (b, B) :: j1, oa', cp', catF O ol D, ol + k⟩, hpr heq' hbl2, ⟨hm2, hok2 heq', slmCongr hv' fun i hi => ?_, hnx heq'⟩, ⟨rfl, rfl, trivial⟩, mAll _ _ _ _ _⟩
    have hi : i < (ol + k) * (0 + 1) := hi
    show _ = u8f (catF O ol D) i
    unfold catF u8f
    by_cases hi2 : i < ol
    · rw [if_pos (by omega)]; dsimp only; rw [if_pos hi2]
    · rw [if_neg (by omega)]; dsimp only; rw [if_neg hi2, Nat.zero_add, show i - ol * (0 + 1) = i - ol by omega, hg _ (by omega)]; rfl
end Go.Proofs.YtogmacnlpclgkaaDoor
