/-
  TEXTS MERGED: W22.
-/
import Derived.Test.YtogmacnlpclgkaaDoorK17
/-! WALKS 22: readBlock. -/
namespace Go.Proofs.YtogmacnlpclgkaaDoor
open Go Go.Eng
attribute [local irreducible] RO J Trip Quiet
set_option maxRecDepth 20000
variable {G : Mem} {S : Sent G} {dat : Nat → Nat} {N : Nat}

/-- What is asked of a compressed block. -/
def CmpT (src : Source S dat N) {E : Type} (Ext : E → RX → Mem → Prop) (cmp : PS E → Nat → PS E × Bool) (can : PS E → Nat → Prop) : Prop :=
  ∀ (rb : Nat) (p : PS E) (m : Mem) (size : Nat), RdM src Ext rb p m → can p size → size ≤ 131072 →
    Trip Tryd.prog G 54 #[.pointer (some ⟨rb, 0, none⟩), .int .i64 size] m (fun v m' => RdM src Ext rb (cmp p size).1 m' ∧ ((cmp p size).2 = true ∧ v = .nilIface ∨ (cmp p size).2 = false ∧ ErrB S v))

/-! The Reader's memory, in other orders -/
section
variable (a : Nat × Blk) (s b w e : Mem)
theorem pA (t : Mem) : (s ++ (b ++ t)).Perm (b ++ (s ++ t)) := by
  rw [← List.append_assoc, ← List.append_assoc]; exact List.perm_append_comm.append_right t
/-- The buffer ahead. -/
theorem mB : MEqv (a :: (s ++ (b ++ (w ++ e)))) ((a :: b) ++ (s ++ (w ++ e))) := .of_perm (List.Perm.cons a (pA s b (w ++ e)))
/-- The buffer and the source. -/
theorem mF : MEqv (a :: (s ++ (b ++ (w ++ e)))) ((b ++ s) ++ (a :: (w ++ e))) :=
  .of_perm ((List.Perm.cons a ((pA s b (w ++ e)).trans (by rw [← List.append_assoc]))).trans List.perm_middle.symm)
/-- The window and the buffer ahead. -/
theorem mW : MEqv (a :: (s ++ (b ++ (w ++ e)))) ((a :: (w ++ b)) ++ (s ++ e)) :=
  .of_perm (List.Perm.cons a ((List.Perm.append_left s (pA b w e)).trans ((pA s w (b ++ e)).trans (by
    show List.Perm _ ((w ++ b) ++ (s ++ e))
    rw [List.append_assoc]; exact List.Perm.append_left w (pA s b e)))))
/-- The source and the window ahead. -/
theorem mH : MEqv (a :: (s ++ (b ++ (w ++ e)))) ((a :: (s ++ w)) ++ (b ++ e)) :=
  .of_perm (List.Perm.cons a (by
    show List.Perm _ ((s ++ w) ++ (b ++ e))
    rw [List.append_assoc]; exact List.Perm.append_left s (pA b w e)))
end

theorem rd_6 (x y : Int) (s : RS) : ((rdB x s).st 6 (.int .i64 y)).obj = (rdB y s).obj := blk_tab rfl rfl rfl rfl

/-- A block whose first cells have a value. -/
def fillB (B : Blk) (n : Nat) (v : Value) : Blk := ⟨B.n, fun j => if j < n then v else B.g j, B.T, B.fr⟩
theorem fill_0 (B : Blk) (v : Value) : B.obj = (fillB B 0 v).obj := by
  unfold fillB
  simp only [Nat.not_lt_zero, if_false]
theorem fill_st (B : Blk) (i o : Nat) (v : Value) (h : o = i) : ((fillB B i v).st o v).obj = (fillB B (i + 1) v).obj := by
  subst h
  congr 1
  unfold fillB Blk.st
  congr 1
  funext j
  unfold upd
  rcases hb : j.beq o with _ | _
  · have h1 := Nat.ne_of_beq_eq_false hb
    show (if j < o then v else B.g j) = _
    by_cases h2 : j < o
    · rw [if_pos h2, if_pos (by omega)]
    · rw [if_neg h2, if_neg (by omega)]
  · have h1 := Nat.eq_of_beq_eq_true hb
    show v = _
    rw [if_pos (by omega)]

theorem bufForm {v : Value} {len : Nat} {S : Nat → Nat} {sm : Mem} (h : BufN v len S sm) : ∃ oa cp, v = .slice oa len cp ∧ ∀ rest : Mem, View (sm ++ rest) oa len cp S := by
  rcases h with ⟨rfl, rfl, rfl, _⟩ | ⟨b, cap, B, rfl, rfl, _, hn, hlc, hg, _⟩
  · exact ⟨none, 0, rfl, fun _ => ⟨Nat.le_refl _, .inl ⟨rfl, rfl, rfl⟩⟩⟩
  · exact ⟨_, cap, rfl, fun _ => ⟨hlc, .inr ⟨b, 0, B, rfl, by simp, fun _ => by omega, fun i hi => by rw [Nat.zero_add]; exact hg i (by omega)⟩⟩⟩
theorem rd_1 (x : Int) (s : RS) : ((rdB x s).st 1 (.bool false)).obj = (rdB x (s.wSaw false)).obj := blk_tab rfl rfl rfl rfl

theorem rd_61 (x y : Int) (s : RS) : (((rdB x s).st 6 (.int .i64 y)).st 1 (.bool false)).obj = (rdB y (s.wSaw false)).obj := blk_tab rfl rfl rfl rfl

/-- wrapError of a new error. -/
theorem wnew_t (S : Sent G) (rb : Nat) (x : Int) (s : RS) (off : Int) (b : Nat) (str : ByteArray) : Trip Tryd.prog G 37 #[.pointer (some ⟨rb, 0, none⟩), .int .i64 off, .iface 122 (.pointer (some ⟨b, 0, none⟩))] ((rb, rdB x s) :: [(b, listB [.string str] 124)])
    (fun v m => ErrV S .z v ∧ m = (rb, rdB x s) :: [(b, listB [.string str] 124)]) :=
  wrapError_z G S rb (rdB x s) x off (by show 6 < 83; decide) rfl b 0 _ _ (by simp; exact .inl rfl) rfl fun hnd => by
    left
    intro he
    simp only [List.cons_append, List.nil_append, List.map_cons, List.nodup_cons, List.mem_cons, List.mem_map] at hnd
    exact hnd.2.1 ⟨_, S.e1, he.symm⟩

set_option maxHeartbeats 1000000 in
/-- Behind a block's bytes. -/
theorem rendJ (src : Source S dat N) (hd : ∀ i, dat i < 256) {E : Type} (Ext : E → RX → Mem → Prop) (rb : Nat) (p : PS E) (m : Mem) (hm : RdM src Ext rb p m) (hN : N ≤ 2 ^ 62) (last : Bool) (k : Nat) (_hk : k ≤ 2 ^ 20) (R : Value → Mem → Prop)
    (hR : ∀ v m', RdM src Ext rb (rdEnd dat N last p).1 m' → ((rdEnd dat N last p).2 = true ∧ v = .nilIface ∨ (rdEnd dat N last p).2 = false ∧ ErrV S .z v) → R v m') (c : World) (h0 : Base) (hex : h0.ex = false) (f : Fr) :
    J Tryd.prog G c Tryd.f52.ntmps h0 (seqDrop 10 (codeOf Tryd.f52.body)) (Eng.Ends Tryd.prog G c Tryd.f52 h0 R)
        (setL f [(0, .pointer (some ⟨rb, 0, none⟩)), (3, .int .i64 (k : Nat)), (7, .bool last)]) m := by
  obtain ⟨x, s, q0, bm, wm, em, rfl, hok, hpos, hrv, hscr, hfl, hrem, hSb, hbl, hws, hb, hw, hx, hext⟩ := hm
  have lim := src.le q0 hok
  obtain ⟨oa, cp, hbv, hview⟩ := bufForm hb
  obtain ⟨s, rfl⟩ : ∃ s' : RS, s = (s'.wRv (.iface src.t src.rv)).wBuf (.slice oa p.bl cp) := ⟨s, by cases s; simp only at hrv hbv; rw [hrv, hbv]⟩
  clear hrv hbv
  obtain ⟨f1, f2, f3, f4, f5, f6, f7⟩ := hfl
  change s.saw = p.saw at f1
  change s.sum = p.sum at f2
  change s.one = p.one at f3
  change s.unk = p.unk at f4
  change s.rem = p.rem at f5
  change s.off = p.off at f6
  change s.wsz = p.wsz at f7
  change ∀ i, s.scr i < 256 at hscr
  have hr64 : p.rem < 2 ^ 64 := by rw [← q64_eq]; exact hrem
  refine go _ ?_
  refine J_joinE (σ := Nat) [] (fun _ => [(0, .pointer (some ⟨rb, 0, none⟩)), (3, .int .i64 (k : Nat)), (7, .bool last)]) (fun r => (rb, rdB x (((s.wRv (.iface src.t src.rv)).wBuf (.slice oa p.bl cp)).wRem r)) :: (src.mem q0 ++ (bm ++ (wm ++ em))))
    (fun r => r = (if p.unk then p.rem else p.rem - p.bl) ∧ ¬ (p.unk = false ∧ p.rem < p.bl)) ?_ ?_
  · refine J_cond rfl (fun hu => ?_) (fun hu => ?_)
    · have hu' : p.unk = false := by rw [← f4]; simpa using hu
      refine go _ ?_
      refine J_condP rfl (fun hgt => ?_) (fun hle => ?_)
      · have hE : rdEnd dat N last p = (p, false) := by unfold rdEnd; rw [if_pos ⟨hu', by omega⟩]
        refine go _ ?_
        refine ro_callT (merr_t S rb x _ _ _) ?_
        rintro v m ⟨⟨b', rfl⟩, rfl⟩
        refine go _ ?_
        refine J_ret ?_
        refine ends_retS [2] (post := (rb, rdB x ((s.wRv (.iface src.t src.rv)).wBuf (.slice oa p.bl cp))) :: (src.mem q0 ++ (bm ++ (wm ++ em)))) (junk := []) (hR _ _ ?_ (.inr ⟨by rw [hE], b', rfl⟩)) rfl (by rw [List.append_nil]; exact MEqv.refl _)
        rw [hE]
        exact ⟨x, _, q0, bm, wm, em, rfl, hok, hpos, rfl, hscr, ⟨f1, f2, f3, f4, f5, f6, f7⟩, hrem, hSb, hbl, hws, hb, hw, fun h => ⟨(hx h).len, (hx h).acc, (hx h).cnt, (hx h).buf, (hx h).byte⟩, hext⟩
      · refine go _ ?_
        refine ⟨p.rem - p.bl, ⟨by rw [hu', if_neg (by decide)], by omega⟩, ⟨rfl, rfl, rfl, trivial⟩, .cons ?_ (.refl _)⟩
        rw [← f5]
        exact rd_5 _ _ _
    · have hu' : p.unk = true := by rw [← f4]; simpa using hu
      refine go _ ?_
      exact ⟨p.rem, ⟨by rw [hu', if_pos rfl], by rw [hu']; simp⟩, ⟨rfl, rfl, rfl, trivial⟩, .cons (by rw [← f5]) (.refl _)⟩
  rintro r f ⟨hr, hnr⟩
  have hrq : r < q64 := by rw [hr]; split <;> omega
  refine go _ ?_
  refine J_joinE (σ := RS) [] (fun _ => [(0, .pointer (some ⟨rb, 0, none⟩)), (3, .int .i64 (k : Nat)), (7, .bool last)]) (fun t => (rb, rdB x t) :: (src.mem q0 ++ (bm ++ (wm ++ em))))
    (fun t => (∃ l v b n, t = (((s.wRv (.iface src.t src.rv)).wBuf (.slice oa p.bl cp)).wRem r).wChk l v b n) ∧ (p.sum = true → XhM t (catF p.XT p.XN p.S) (p.XN + p.bl))) ?_ ?_
  · refine J_cond rfl (fun hu => ?_) (fun hu => ?_)
    · have hu' : p.sum = true := by rw [← f2]; simpa using hu
      have hx' := hx hu'
      refine go _ ?_
      refine ro_callT (xupd_t rb x (((s.wRv (.iface src.t src.rv)).wBuf (.slice oa p.bl cp)).wRem r) p.XT p.S p.XN p.bl cp oa bm ⟨hx'.len, hx'.acc, hx'.cnt, hx'.buf, hx'.byte⟩ (by simpa using hview []) hSb hbl) ?_ (hs := mB _ _ _ _ _)
      rintro v m ⟨l, v1, b1, n1, hx2, rfl⟩
      refine RO_eqv (mB _ _ _ _ _).symm (fun _ ⟨s, hi, hs, he⟩ => ⟨s, hi, hs, (mB _ _ _ _ _).symm.trans he⟩) ?_
      refine go _ ?_
      exact ⟨_, ⟨⟨l, v1, b1, n1, rfl⟩, fun _ => hx2⟩, ⟨rfl, rfl, rfl, trivial⟩, .refl _⟩
    · have hu' : p.sum = false := by rw [← f2]; simpa using hu
      refine go _ ?_
      exact ⟨_, ⟨⟨s.xl, s.xv, s.xb, s.xc, rfl⟩, fun h => by rw [hu'] at h; exact absurd h (by decide)⟩, ⟨rfl, rfl, rfl, trivial⟩, .refl _⟩
  rintro t f ⟨⟨l, v1, b1, n1, rfl⟩, hx2⟩
  clear hx
  have hE : rdEnd dat N last p = (if last = false then ({ p with rem := r, XT := if p.sum then catF p.XT p.XN p.S else p.XT, XN := if p.sum then p.XN + p.bl else p.XN, L := winL p.wsz p.wl p.L p.bl p.S, wl := min p.wsz (p.wl + p.bl) }, true)
      else if p.unk = false ∧ r ≠ 0 then ({ p with rem := r, XT := if p.sum then catF p.XT p.XN p.S else p.XT, XN := if p.sum then p.XN + p.bl else p.XN }, false)
      else if p.sum = false then ({ p with rem := r, XT := if p.sum then catF p.XT p.XN p.S else p.XT, XN := if p.sum then p.XN + p.bl else p.XN, saw := false }, true)
      else if N - p.pos < 4 then ({ p with rem := r, XT := if p.sum then catF p.XT p.XN p.S else p.XT, XN := if p.sum then p.XN + p.bl else p.XN, pos := N }, false)
      else if le4 (fun i => dat (p.pos + i)) = xdig (if p.sum then catF p.XT p.XN p.S else p.XT) (if p.sum then p.XN + p.bl else p.XN) % 4294967296 then ({ p with rem := r, XT := if p.sum then catF p.XT p.XN p.S else p.XT, XN := if p.sum then p.XN + p.bl else p.XN, pos := p.pos + 4, saw := false }, true)
      else ({ p with rem := r, XT := if p.sum then catF p.XT p.XN p.S else p.XT, XN := if p.sum then p.XN + p.bl else p.XN, pos := p.pos + 4 }, false)) := by
    unfold rdEnd
    rw [if_neg hnr, hr]
  have hX : p.sum = true → XhM ((((s.wRv (.iface src.t src.rv)).wBuf (.slice oa p.bl cp)).wRem r).wChk l v1 b1 n1) (if p.sum then catF p.XT p.XN p.S else p.XT) (if p.sum then p.XN + p.bl else p.XN) := fun h => by
    rw [if_pos h, if_pos h]; exact hx2 h
  clear hx2
  generalize (if p.sum then catF p.XT p.XN p.S else p.XT) = XT at hE hX
  generalize (if p.sum then p.XN + p.bl else p.XN) = XN at hE hX
  refine go _ ?_
  refine J_joinE (σ := Mem) [] (fun _ => []) (fun m => m) (fun m => RdM src Ext rb (rdEnd dat N last p).1 m ∧ (rdEnd dat N last p).2 = true) ?_ ?_
  · refine J_cond rfl (fun hl => ?_) (fun hl => ?_)
    · have hl' : last = false := by simpa using hl
      rw [if_pos hl'] at hE
      refine go _ ?_
      refine ro_callT (save_t rb x ((((s.wRv (.iface src.t src.rv)).wBuf (.slice oa p.bl cp)).wRem r).wChk l v1 b1 n1) p.wl p.bl p.L p.S wm bm (.slice oa p.bl cp) (by show WinM s.wd s.wsz s.wo p.L p.wl wm; rw [f7]; exact hw) hb (by show s.wsz ≤ 2 ^ 30; rw [f7]; exact hws) hbl) ?_ (hs := mW _ _ _ _ _)
      rintro v m ⟨wd', wo', wm', hw2, rfl⟩
      refine RO_eqv (mW _ _ _ _ _).symm (fun _ ⟨s, hi, hs, he⟩ => ⟨s, hi, hs, (mW _ _ _ _ _).symm.trans he⟩) ?_
      refine go _ ?_
      refine ⟨_, ⟨?_, by rw [hE]⟩, trivial, .refl _⟩
      rw [hE]
      change WinM wd' s.wsz wo' (winL s.wsz p.wl p.L p.bl p.S) (min s.wsz (p.wl + p.bl)) wm' at hw2
      rw [f7] at hw2
      exact ⟨x, _, q0, bm, wm', em, rfl, hok, hpos, rfl, hscr, ⟨f1, f2, f3, f4, rfl, f6, f7⟩, hrq, hSb, hbl, hws, hb, hw2, fun h => ⟨(hX h).len, (hX h).acc, (hX h).cnt, (hX h).buf, (hX h).byte⟩, hext⟩
    · have hl' : ¬ last = false := by simpa using hl
      rw [if_neg hl'] at hE
      refine J_seq ?_
      refine J_joinE (σ := Unit) [] (fun _ => [(0, .pointer (some ⟨rb, 0, none⟩)), (3, .int .i64 (k : Nat))]) (fun _ => ((rb, rdB x ((((s.wRv (.iface src.t src.rv)).wBuf (.slice oa p.bl cp)).wRem r).wChk l v1 b1 n1)) :: (src.mem q0 ++ (bm ++ (wm ++ em))))) (fun _ => ¬ (p.unk = false ∧ r ≠ 0)) ?_ ?_
      · refine J_seq ?_
        refine J_join [] [(0, .pointer (some ⟨rb, 0, none⟩)), (3, .int .i64 (k : Nat)), (277, .bool (decide (p.unk = false ∧ r ≠ 0)))] ((rb, rdB x ((((s.wRv (.iface src.t src.rv)).wBuf (.slice oa p.bl cp)).wRem r).wChk l v1 b1 n1)) :: (src.mem q0 ++ (bm ++ (wm ++ em)))) ?_ ?_
        · refine go _ ?_
          refine ro_split 271 rfl (fun hu => ?_) (fun hu => ?_)
          · have hu' : p.unk = false := by rw [← f4]; simpa using hu
            refine go _ ?_
            refine ⟨⟨rfl, rfl, ?_, trivial⟩, .refl _⟩
            show Value.bool _ = Value.bool _
            congr 1
            rw [decide_eq_decide]
            constructor
            · intro h; exact ⟨hu', by omega⟩
            · intro h; omega
          · have hu' : p.unk = true := by rw [← f4]; simpa using hu
            refine go _ ?_
            refine ⟨⟨rfl, rfl, ?_, trivial⟩, .refl _⟩
            show Value.bool false = Value.bool _
            congr 1
            symm
            rw [decide_eq_false_iff_not, hu']
            simp
        intro f
        refine J_condP rfl (fun hbad => ?_) (fun hgood => ?_)
        · rw [if_pos hbad] at hE
          refine go _ ?_
          refine ro_callT (merr_t S rb x _ _ _) ?_
          rintro v m ⟨⟨b', rfl⟩, rfl⟩
          refine go _ ?_
          refine J_ret ?_
          refine ends_retS [2] (post := ((rb, rdB x ((((s.wRv (.iface src.t src.rv)).wBuf (.slice oa p.bl cp)).wRem r).wChk l v1 b1 n1)) :: (src.mem q0 ++ (bm ++ (wm ++ em))))) (junk := []) (hR _ _ ?_ (.inr ⟨by rw [hE], b', rfl⟩)) rfl (by rw [List.append_nil]; exact MEqv.refl _)
          rw [hE]
          exact ⟨x, _, q0, bm, wm, em, rfl, hok, hpos, rfl, hscr, ⟨f1, f2, f3, f4, rfl, f6, f7⟩, hrq, hSb, hbl, hws, hb, hw, fun h => ⟨(hX h).len, (hX h).acc, (hX h).cnt, (hX h).buf, (hX h).byte⟩, hext⟩
        · refine J_skip ?_
          exact ⟨(), hgood, ⟨rfl, rfl, trivial⟩, .refl _⟩
      rintro _ f hgood
      rw [if_neg hgood] at hE
      refine go _ ?_
      refine J_cond rfl (fun hu => ?_) (fun hu => ?_)
      · have hu' : p.sum = true := by rw [← f2]; simpa using hu
        have hX' := hX hu'
        rw [if_neg (by rw [hu']; decide)] at hE
        refine go _ ?_
        refine ro_callT (rfull_t src q0 rb x ((((s.wRv (.iface src.t src.rv)).wBuf (.slice oa p.bl cp)).wRem r).wChk l v1 b1 n1) 4 hok (by omega)) ?_
        rintro v m ⟨q2, k2, g1, g2, g3, rfl, rfl⟩
        have hsc2 : ∀ i, ov s.scr k2 dat (src.pos q0) i < 256 := ov_lt hscr hd _ _
        have hs4 : 4 ≤ k2 → ∀ i, i < 4 → ov s.scr k2 dat (src.pos q0) i = dat (p.pos + i) := fun h i hi => by unfold ov; rw [if_pos (by omega), hpos]
        rw [hpos] at g2 g3
        change RO Tryd.prog G _ _ _ _ _ _ _ _ ((rb, rdB x (((((s.wRv (.iface src.t src.rv)).wBuf (.slice oa p.bl cp)).wRem r).wChk l v1 b1 n1).wScr (ov s.scr k2 dat (src.pos q0)))) :: (src.mem q2 ++ (bm ++ (wm ++ em))))
        generalize ov s.scr k2 dat (src.pos q0) = scr at hs4 hsc2 ⊢
        have hX2 : XhM (((((s.wRv (.iface src.t src.rv)).wBuf (.slice oa p.bl cp)).wRem r).wChk l v1 b1 n1).wScr scr) XT XN := ⟨hX'.len, hX'.acc, hX'.cnt, hX'.buf, hX'.byte⟩
        by_cases h4 : 4 ≤ k2
        · rw [fullV_ok h4]
          have hs4 := hs4 h4
          have hle : le4 (fun i => scr (0 + i)) = le4 (fun i => dat (p.pos + i)) := by
            unfold le4; simp only [Nat.zero_add]; rw [hs4 0 (by omega), hs4 1 (by omega), hs4 2 (by omega), hs4 3 (by omega)]
          rw [if_neg (by omega)] at hE
          refine go _ ?_
          refine ro_callQT (le32_q G _ rb 28 4 16 _ _ (scr_text rb x _ (by simp; exact .inl rfl) 0 4 (by omega) hsc2) (by omega)) ?_
          rw [hle]
          refine go _ ?_
          refine ro_callT (xdig_t rb x (((((s.wRv (.iface src.t src.rv)).wBuf (.slice oa p.bl cp)).wRem r).wChk l v1 b1 n1).wScr scr) XT XN hX2) ?_
          rintro v m ⟨rfl, rfl⟩
          refine go _ ?_
          have hb32 : (2 : Nat) ^ IntKind.u32.bits = 4294967296 := rfl
          refine J_condP rfl (fun hne => ?_) (fun heq => ?_)
          · rw [hb32] at hne
            rw [if_neg (by omega)] at hE
            refine go _ ?_
            refine ro_callT (new_t G _) ?_
            rintro v m ⟨b, rfl, rfl⟩
            refine go _ ?_
            refine ro_callT (wnew_t S rb x (((((s.wRv (.iface src.t src.rv)).wBuf (.slice oa p.bl cp)).wRem r).wChk l v1 b1 n1).wScr scr) 0 b _) ?_
            rintro v m ⟨⟨b', rfl⟩, rfl⟩
            refine go _ ?_
            refine J_ret ?_
            refine ends_retS [2] (post := (rb, rdB x (((((s.wRv (.iface src.t src.rv)).wBuf (.slice oa p.bl cp)).wRem r).wChk l v1 b1 n1).wScr scr)) :: (src.mem q2 ++ (bm ++ (wm ++ em)))) (junk := [(b, _)]) (hR _ _ ?_ (.inr ⟨by rw [hE], b', rfl⟩)) rfl (.of_perm (List.Perm.cons _ List.perm_append_comm))
            rw [hE]
            exact ⟨x, _, q2, bm, wm, em, rfl, g1, by dsimp only; omega, rfl, hsc2, ⟨f1, f2, f3, f4, rfl, f6, f7⟩, hrq, hSb, hbl, hws, hb, hw, fun _ => hX2, hext⟩
          · rw [hb32] at heq
            rw [if_pos (by omega)] at hE
            refine go _ ?_
            refine ro_bin (op := .add) rfl rfl rfl rfl ?_
            refine go _ ?_
            refine ⟨_, ⟨?_, by rw [hE]⟩, trivial, .cons (rd_61 _ _ _) (.refl _)⟩
            rw [hE]
            exact ⟨_, _, q2, bm, wm, em, rfl, g1, by dsimp only; omega, rfl, hsc2, ⟨rfl, f2, f3, f4, rfl, f6, f7⟩, hrq, hSb, hbl, hws, hb, hw, fun _ => ⟨hX2.len, hX2.acc, hX2.cnt, hX2.buf, hX2.byte⟩, hext⟩
        · rw [if_pos (by omega)] at hE
          have hfin : RdM src Ext rb (rdEnd dat N last p).1 ((rb, rdB x (((((s.wRv (.iface src.t src.rv)).wBuf (.slice oa p.bl cp)).wRem r).wChk l v1 b1 n1).wScr scr)) :: (src.mem q2 ++ (bm ++ (wm ++ em)))) := by
            rw [hE]
            exact ⟨x, _, q2, bm, wm, em, rfl, g1, by dsimp only; omega, rfl, hsc2, ⟨f1, f2, f3, f4, rfl, f6, f7⟩, hrq, hSb, hbl, hws, hb, hw, fun _ => hX2, hext⟩
          by_cases h5 : k2 = 0
          · rw [fullV_eof h4 h5]
            refine go _ ?_
            refine ro_callT (wnonE_t S rb x _ _) ?_
            rintro v m ⟨⟨b', rfl⟩, rfl⟩
            refine go _ ?_
            refine J_ret ?_
            exact ends_retS [2] (post := (rb, rdB x (((((s.wRv (.iface src.t src.rv)).wBuf (.slice oa p.bl cp)).wRem r).wChk l v1 b1 n1).wScr scr)) :: (src.mem q2 ++ (bm ++ (wm ++ em)))) (junk := []) (hR _ _ hfin (.inr ⟨by rw [hE], b', rfl⟩)) rfl (by rw [List.append_nil]; exact MEqv.refl _)
          · rw [fullV_ueof h4 h5]
            refine go _ ?_
            refine ro_callT (wnonU_t S rb x _ _) ?_
            rintro v m ⟨⟨b', rfl⟩, rfl⟩
            refine go _ ?_
            refine J_ret ?_
            exact ends_retS [2] (post := (rb, rdB x (((((s.wRv (.iface src.t src.rv)).wBuf (.slice oa p.bl cp)).wRem r).wChk l v1 b1 n1).wScr scr)) :: (src.mem q2 ++ (bm ++ (wm ++ em)))) (junk := []) (hR _ _ hfin (.inr ⟨by rw [hE], b', rfl⟩)) rfl (by rw [List.append_nil]; exact MEqv.refl _)
      · have hu' : p.sum = false := by rw [← f2]; simpa using hu
        rw [if_pos hu'] at hE
        refine go _ ?_
        refine ⟨_, ⟨?_, by rw [hE]⟩, trivial, .cons (rd_1 _ _) (.refl _)⟩
        rw [hE]
        exact ⟨x, _, q0, bm, wm, em, rfl, hok, hpos, rfl, hscr, ⟨rfl, f2, f3, f4, rfl, f6, f7⟩, hrq, hSb, hbl, hws, hb, hw, fun h => absurd (h.symm.trans hu') (by decide), hext⟩
  · rintro m f ⟨hm2, hr2⟩
    refine go _ ?_
    refine J_ret ?_
    exact ends_retS [2] (post := m) (junk := []) (hR _ _ hm2 (.inl ⟨hr2, rfl⟩)) rfl (by rw [List.append_nil]; exact MEqv.refl _)

set_option maxHeartbeats 1000000 in
/-- Behind the tests of the block's size: the types. -/
theorem rblkK (src : Source S dat N) (hd : ∀ i, dat i < 256) {E : Type} (Ext : E → RX → Mem → Prop) (cmp : PS E → Nat → PS E × Bool) (can : PS E → Nat → Prop) (hcmp : CmpT src Ext cmp can) (rb : Nat) (p : PS E) (hN : N ≤ 2 ^ 62)
    (x : Int) (s : RS) (q' : src.σ) (bm wm em : Mem) (h1 : src.ok q') (hps : src.pos q' = p.pos + 3) (hsc' : ∀ i, s.scr i < 256) (hfl : s.saw = p.saw ∧ s.sum = p.sum ∧ s.one = p.one ∧ s.unk = p.unk ∧ s.rem = p.rem ∧ s.off = p.off ∧ s.wsz = p.wsz) (hrem : p.rem < q64) (hSb : ∀ i, p.S i < 256) (hbl : p.bl ≤ 2 ^ 30) (hws : p.wsz ≤ 2 ^ 30)
    (hb : BufN s.buf p.bl p.S bm) (hw : WinM s.wd p.wsz s.wo p.L p.wl wm) (hx : p.sum = true → XhM s p.XT p.XN) (hext : Ext p.e s.ext em) (h : Nat) (hh : hdr3 dat p.pos = h) (hh24 : h < 16777216) (h3N : 3 ≤ N - p.pos)
    (hcan' : h / 2 % 4 = 2 → can { p with pos := p.pos + 3 } (h / 8)) (hz1 : h / 8 ≤ 131072) (hz2 : 0 < p.wsz → h / 8 ≤ p.wsz) (c : World) (h0 : Base) (hex : h0.ex = false) (f : Fr) :
    J Tryd.prog G c Tryd.f52.ntmps h0 (seqDrop 9 (codeOf Tryd.f52.body)) (Eng.Ends Tryd.prog G c Tryd.f52 h0 fun v m' => RdM src Ext rb (rdBlk dat N cmp p).1 m' ∧ ((rdBlk dat N cmp p).2 = true ∧ v = .nilIface ∨ (rdBlk dat N cmp p).2 = false ∧ ErrB S v))
        (setL f [(0, .pointer (some ⟨rb, 0, none⟩)), (3, .int .i64 3), (7, .bool (decide (((h % 2 : Nat) : Int) ≠ 0))), (8, .int .u32 ((h / 2 % 4 : Nat) : Int)), (9, .int .i64 ((h / 8 : Nat) : Int))]) ((rb, rdB x (s.wRv (.iface src.t src.rv))) :: (src.mem q' ++ (bm ++ (wm ++ em)))) := by
  refine J_seq ?_
  refine J_joinE (σ := PS E × Mem × Nat) [] (fun t => [(0, .pointer (some ⟨rb, 0, none⟩)), (3, .int .i64 (t.2.2 : Nat)), (7, .bool (decide (((h % 2 : Nat) : Int) ≠ 0)))]) (fun t => t.2.1)
    (fun t => RdM src Ext rb t.1 t.2.1 ∧ t.2.2 ≤ 2 ^ 20 ∧ rdBlk dat N cmp p = rdEnd dat N (decide (h % 2 ≠ 0)) t.1) ?_ ?_
  · refine go _ ?_
    refine J_condP rfl (fun ht0 => ?_) (fun ht0 => ?_)
    · have ht : h / 2 % 4 = 0 := by omega
      refine go _ ?_
      refine ro_callT (setBuf_t rb x (s.wRv (.iface src.t src.rv)) p.bl (h / 8) p.S bm hb (by omega)) ?_ (hs := mB _ _ _ _ _)
      rintro v m ⟨buf', bm', hb', rfl⟩
      refine RO_eqv (mB _ _ _ _ _).symm (fun _ h => J_eqv (mB _ _ _ _ _).symm h) ?_
      refine go _ ?_
      refine ro_callT (fullB_t src q' buf' (h / 8) p.S bm' h1 hb' (by omega)) ?_ (hs := mF _ _ _ _ _)
      rintro v m ⟨q2, k, bm2, g1, g2, g3, g4, rfl, rfl⟩
      refine RO_eqv (mF _ _ _ _ _).symm (fun _ h => J_eqv (mF _ _ _ _ _).symm h) ?_
      have hps : src.pos q' = p.pos + 3 := by omega
      rw [hps] at g2 g3 g4
      have hov := ov_lt (g := p.S) hSb hd k (p.pos + 3)
      by_cases h4 : h / 8 ≤ k
      · rw [fullV_ok h4]
        refine go _ ?_
        refine ro_bin (op := .add) rfl rfl rfl rfl ?_
        refine go _ ?_
        have hR : rdBlk dat N cmp p = rdEnd dat N (decide (h % 2 ≠ 0)) { p with pos := p.pos + 3 + k, S := ov p.S k dat (p.pos + 3), bl := h / 8 } := by
          unfold rdBlk; rw [if_neg (by omega)]; dsimp only
          rw [hh, if_neg (by omega), if_pos ht, ← g2, if_neg (by omega)]
        refine ⟨({ p with pos := p.pos + 3 + k, S := ov p.S k dat (p.pos + 3), bl := h / 8 }, (rb, rdB _ ((s.wRv (.iface src.t src.rv)).wBuf buf')) :: (src.mem q2 ++ (bm2 ++ (wm ++ em))), 3 + h / 8), ⟨?_, by dsimp only; omega, hR⟩, ⟨rfl, rfl, rfl, trivial⟩, .cons (rd_6 _ _ _) (.refl _)⟩
        exact ⟨_, _, q2, bm2, wm, em, rfl, g1, g3, rfl, hsc', hfl, hrem, hov, by dsimp only; omega, hws, g4, hw, fun h => ⟨(hx h).len, (hx h).acc, (hx h).cnt, (hx h).buf, (hx h).byte⟩, hext⟩
      · have hR : rdBlk dat N cmp p = ({ p with pos := p.pos + 3 + k, S := ov p.S k dat (p.pos + 3), bl := h / 8 }, false) := by
          unfold rdBlk; rw [if_neg (by omega)]; dsimp only
          rw [hh, if_neg (by omega), if_pos ht, ← g2, if_pos (by omega)]
        have hfin : RdM src Ext rb (rdBlk dat N cmp p).1 ((rb, rdB x ((s.wRv (.iface src.t src.rv)).wBuf buf')) :: (src.mem q2 ++ (bm2 ++ (wm ++ em)))) := by
          rw [hR]
          exact ⟨_, _, q2, bm2, wm, em, rfl, g1, g3, rfl, hsc', hfl, hrem, hov, by dsimp only; omega, hws, g4, hw, fun h => ⟨(hx h).len, (hx h).acc, (hx h).cnt, (hx h).buf, (hx h).byte⟩, hext⟩
        by_cases h5 : k = 0
        · rw [fullV_eof h4 h5]
          refine go _ ?_
          refine ro_callT (wnonE_t S rb x _ _) ?_
          rintro v m ⟨⟨b', rfl⟩, rfl⟩
          refine go _ ?_
          refine J_ret ?_
          refine ends_retS [2] (post := (rb, rdB x _) :: (src.mem q2 ++ (bm2 ++ (wm ++ em)))) (junk := []) ⟨hfin, .inr ⟨by rw [hR], .inl ⟨b', rfl⟩⟩⟩ rfl (by rw [List.append_nil]; exact MEqv.refl _)
        · rw [fullV_ueof h4 h5]
          refine go _ ?_
          refine ro_callT (wnonU_t S rb x _ _) ?_
          rintro v m ⟨⟨b', rfl⟩, rfl⟩
          refine go _ ?_
          refine J_ret ?_
          refine ends_retS [2] (post := (rb, rdB x _) :: (src.mem q2 ++ (bm2 ++ (wm ++ em)))) (junk := []) ⟨hfin, .inr ⟨by rw [hR], .inl ⟨b', rfl⟩⟩⟩ rfl (by rw [List.append_nil]; exact MEqv.refl _)
    · refine go _ ?_
      refine J_condP rfl (fun ht1 => ?_) (fun ht1 => ?_)
      · have ht : h / 2 % 4 = 1 := by omega
        refine go _ ?_
        refine ro_callT (setBuf_t rb x (s.wRv (.iface src.t src.rv)) p.bl (h / 8) p.S bm hb (by omega)) ?_ (hs := mB _ _ _ _ _)
        rintro v m ⟨buf', bm', hb', rfl⟩
        refine RO_eqv (mB _ _ _ _ _).symm (fun _ h => J_eqv (mB _ _ _ _ _).symm h) ?_
        refine go _ ?_
        refine ro_callT (rfull_t src q' rb x ((s.wRv (.iface src.t src.rv)).wBuf buf') 1 h1 (by omega)) ?_
        rintro v m ⟨q2, k, g1, g2, g3, rfl, rfl⟩
        have hsc2 : ∀ i, ov s.scr k dat (src.pos q') i < 256 := ov_lt hsc' hd _ _
        by_cases h4 : 1 ≤ k
        · rw [fullV_ok h4]
          obtain rfl : k = 1 := by omega
          have hv0 : ov s.scr 1 dat (src.pos q') 0 = dat (p.pos + 3) := by rw [hps]; rfl
          change RO Tryd.prog G _ _ _ _ _ _ _ _ ((rb, rdB x (((s.wRv (.iface src.t src.rv)).wBuf buf').wScr (ov s.scr 1 dat (src.pos q')))) :: (src.mem q2 ++ (bm' ++ (wm ++ em))))
          generalize ov s.scr 1 dat (src.pos q') = scr at hv0 hsc2 ⊢
          have hR : rdBlk dat N cmp p = rdEnd dat N (decide (h % 2 ≠ 0)) { p with pos := p.pos + 3 + 1, S := fun i => if i < h / 8 then dat (p.pos + 3) else p.S i, bl := h / 8 } := by
            unfold rdBlk; rw [if_neg (by omega)]; dsimp only
            rw [hh, if_neg (by omega), if_neg (by omega), if_pos ht, if_neg (by omega)]
          have hS2 : ∀ i, (if i < h / 8 then dat (p.pos + 3) else p.S i) < 256 := fun i => by split; exact hd _; exact hSb _
          rcases hb' with ⟨rfl, hz, rfl, hS0⟩ | ⟨b, cap, B, rfl, rfl, hf, hn, hlc, hg, hS0⟩
          · rw [hz]
            refine go _ ?_
            refine J_loopL (σ := Unit) [0, 3, 7, 163, 164] (fun _ => []) (fun _ => _) (fun _ => True) (fun _ => 0) () (.refl _) trivial ?_
            rintro _ f _
            refine go _ ?_
            refine J_condP rfl (fun hlt => absurd hlt (by omega)) (fun _ => ?_)
            refine go _ ?_
            refine ro_bin (op := .add) rfl rfl rfl rfl ?_
            refine go _ ?_
            refine ⟨({ p with pos := p.pos + 3 + 1, S := fun i => if i < h / 8 then dat (p.pos + 3) else p.S i, bl := h / 8 }, (rb, rdB _ (((s.wRv (.iface src.t src.rv)).wBuf (.slice none 0 0)).wScr scr)) :: (src.mem q2 ++ ([] ++ (wm ++ em))), 4), ⟨?_, by dsimp only; omega, hR⟩, ⟨rfl, rfl, rfl, trivial⟩, .cons (rd_6 _ _ _) (.refl _)⟩
            refine ⟨_, _, q2, [], wm, em, rfl, g1, by dsimp only; omega, rfl, hsc2, hfl, hrem, hS2, by dsimp only; omega, hws, .inl ⟨rfl, hz, rfl, fun i => ?_⟩, hw, fun h => ⟨(hx h).len, (hx h).acc, (hx h).cnt, (hx h).buf, (hx h).byte⟩, hext⟩
            rw [← hS0 i]
            show Value.int .u8 ((if i < h / 8 then dat (p.pos + 3) else p.S i : Nat) : Int) = u8f p.S i
            rw [if_neg (by omega)]; rfl
          · refine RO_eqv (mB _ _ _ _ _) (fun _ h => J_eqv (mB _ _ _ _ _) h) ?_
            refine go _ ?_
            refine J_loopL (σ := Nat) [0, 3, 7, 14, 163] (fun i => [(164, .int .i64 i)]) (fun i => (rb, rdB x (((s.wRv (.iface src.t src.rv)).wBuf (.slice (some ⟨b, 0, none⟩) (h / 8) cap)).wScr scr)) :: (b, fillB B i (.int .u8 (scr 0 : Nat))) :: (src.mem q2 ++ (wm ++ em))) (fun i => i ≤ h / 8) (fun i => h / 8 - i) 0 (.skip (.cons (fill_0 _ _) (.refl _))) (Nat.zero_le _) ?_
            intro i f hi
            refine go _ ?_
            refine J_condP rfl (fun hlt => ?_) (fun hge => ?_)
            · refine go _ ?_
              refine ro_storeI rfl rfl rfl rfl (.there .here) (by show _ < B.n; omega) hf hex ?_
              refine go _ ?_
              exact ⟨i + 1, by omega, by omega, ⟨rfl, rfl, rfl, rfl, rfl, rfl, trivial⟩, .skip (.cons (fill_st _ _ _ _ (by omega)) (.refl _))⟩
            · obtain rfl : i = h / 8 := by omega
              refine go _ ?_
              refine ro_bin (op := .add) rfl rfl rfl rfl ?_
              refine go _ ?_
              refine ⟨({ p with pos := p.pos + 3 + 1, S := fun i => if i < h / 8 then dat (p.pos + 3) else p.S i, bl := h / 8 }, (rb, rdB _ (((s.wRv (.iface src.t src.rv)).wBuf (.slice (some ⟨b, 0, none⟩) (h / 8) cap)).wScr scr)) :: (src.mem q2 ++ ([(b, fillB B (h / 8) (.int .u8 (scr 0 : Nat)))] ++ (wm ++ em))), 4), ⟨?_, by dsimp only; omega, hR⟩, ⟨rfl, rfl, rfl, trivial⟩, MEqv.trans (.cons (rd_6 _ _ _) (.refl _)) (mB _ _ [(b, fillB B (h / 8) (.int .u8 (scr 0 : Nat)))] _ _).symm⟩
              refine ⟨_, _, q2, [(b, fillB B (h / 8) (.int .u8 (scr 0 : Nat)))], wm, em, rfl, g1, by dsimp only; omega, rfl, hsc2, hfl, hrem, hS2, by dsimp only; omega, hws, .inr ⟨b, cap, _, rfl, rfl, hf, hn, hlc, fun i hi => ?_, fun i hi => ?_⟩, hw, fun h => ⟨(hx h).len, (hx h).acc, (hx h).cnt, (hx h).buf, (hx h).byte⟩, hext⟩
              · show (if i < h / 8 then Value.int .u8 (scr 0 : Nat) else B.g i) = Value.int .u8 ((if i < h / 8 then dat (p.pos + 3) else p.S i : Nat) : Int)
                by_cases hi2 : i < h / 8
                · rw [if_pos hi2, if_pos hi2, hv0]
                · rw [if_neg hi2, if_neg hi2, hg i hi]; rfl
              · rw [← hS0 i hi]
                show Value.int .u8 ((if i < h / 8 then dat (p.pos + 3) else p.S i : Nat) : Int) = u8f p.S i
                rw [if_neg (by omega)]; rfl
        · obtain rfl : k = 0 := by omega
          rw [fullV_eof h4 rfl]
          have hR : rdBlk dat N cmp p = ({ p with pos := p.pos + 3, bl := h / 8 }, false) := by
            unfold rdBlk; rw [if_neg (by omega)]; dsimp only
            rw [hh, if_neg (by omega), if_neg (by omega), if_pos ht, if_pos (by omega)]
          refine go _ ?_
          refine ro_callT (wnonE_t S rb x _ _) ?_
          rintro v m ⟨⟨b', rfl⟩, rfl⟩
          refine go _ ?_
          refine J_ret ?_
          refine ends_retS [2] (post := (rb, rdB x (((s.wRv (.iface src.t src.rv)).wBuf buf').wScr (ov s.scr 0 dat (src.pos q')))) :: (src.mem q2 ++ (bm' ++ (wm ++ em)))) (junk := []) ⟨?_, .inr ⟨by rw [hR], .inl ⟨b', rfl⟩⟩⟩ rfl (by rw [List.append_nil]; exact MEqv.refl _)
          rw [hR]
          exact ⟨_, _, q2, bm', wm, em, rfl, g1, by dsimp only; omega, rfl, hsc2, hfl, hrem, hSb, by dsimp only; omega, hws, hb', hw, fun h => ⟨(hx h).len, (hx h).acc, (hx h).cnt, (hx h).buf, (hx h).byte⟩, hext⟩
      · refine go _ ?_
        refine J_condP rfl (fun ht2 => ?_) (fun ht2 => ?_)
        · have ht : h / 2 % 4 = 2 := by omega
          refine go _ ?_
          refine ro_bin (op := .add) rfl rfl rfl rfl ?_
          refine go _ ?_
          refine RO_eqv (.cons (rd_6 _ _ _) (.refl _)) (fun _ h => J_eqv (.cons (rd_6 _ _ _) (.refl _)) h) ?_
          have hm1 : ∀ y, RdM src Ext rb { p with pos := p.pos + 3 } ((rb, rdB y (s.wRv (.iface src.t src.rv))) :: (src.mem q' ++ (bm ++ (wm ++ em)))) := fun y =>
            ⟨y, _, q', bm, wm, em, rfl, h1, hps, rfl, hsc', hfl, hrem, hSb, hbl, hws, hb, hw, fun h => ⟨(hx h).len, (hx h).acc, (hx h).cnt, (hx h).buf, (hx h).byte⟩, hext⟩
          have hR0 : rdBlk dat N cmp p = (if (cmp { p with pos := p.pos + 3 } (h / 8)).2 then rdEnd dat N (decide (h % 2 ≠ 0)) (cmp { p with pos := p.pos + 3 } (h / 8)).1 else cmp { p with pos := p.pos + 3 } (h / 8)) := by
            unfold rdBlk; rw [if_neg (by omega)]; dsimp only
            rw [hh, if_neg (by omega), if_neg (by omega), if_neg (by omega), if_pos ht]
          refine ro_callT (hcmp rb _ _ (h / 8) (hm1 _) (hcan' ht) hz1) ?_ (fm := []) (hs := by rw [List.append_nil]; exact .refl _)
          rintro v m ⟨hm2, hv⟩
          rw [List.append_nil]
          rcases hv with ⟨hc2, rfl⟩ | ⟨hc2, ⟨b', rfl⟩ | rfl⟩
          · rw [hc2, if_pos rfl] at hR0
            have hm3 := hm2
            obtain ⟨x2, s2, q2, bm2, wm2, em2, rfl, a1, a2, a3, a4, a5, a6, a7, a8, a9, a10, a11, a12, a13⟩ := hm2
            refine go _ ?_
            refine ro_bin (op := .add) rfl rfl rfl rfl ?_
            refine go _ ?_
            exact ⟨((cmp { p with pos := p.pos + 3 } (h / 8)).1, (rb, rdB _ s2) :: (src.mem q2 ++ (bm2 ++ (wm2 ++ em2))), 3), ⟨⟨_, s2, q2, bm2, wm2, em2, rfl, a1, a2, a3, a4, a5, a6, a7, a8, a9, a10, a11, a12, a13⟩, by dsimp only; omega, hR0⟩, ⟨rfl, rfl, rfl, trivial⟩, .cons (rd_6 _ _ _) (.refl _)⟩
          · rw [hc2, if_neg (by decide)] at hR0
            refine go _ ?_
            refine J_ret ?_
            exact ends_retS [2] (post := m) (junk := []) ⟨by rw [hR0]; exact hm2, .inr ⟨by rw [hR0]; exact hc2, .inl ⟨b', rfl⟩⟩⟩ rfl (by rw [List.append_nil]; exact MEqv.refl _)
          · rw [hc2, if_neg (by decide)] at hR0
            unfold Sent.ueofV
            refine go _ ?_
            refine J_ret ?_
            exact ends_retS [2] (post := m) (junk := []) ⟨by rw [hR0]; exact hm2, .inr ⟨by rw [hR0]; exact hc2, .inr rfl⟩⟩ rfl (by rw [List.append_nil]; exact MEqv.refl _)
        · refine go _ ?_
          refine J_condP rfl (fun ht3 => ?_) (fun ht3 => absurd ht3 (by omega))
          refine go _ ?_
          refine ro_callT (merr_t S rb x _ _ _) ?_
          rintro v m ⟨⟨b', rfl⟩, rfl⟩
          refine go _ ?_
          refine J_ret ?_
          have hR : rdBlk dat N cmp p = ({ p with pos := p.pos + 3 }, false) := by
            unfold rdBlk; rw [if_neg (by omega)]; dsimp only
            rw [hh, if_neg (by omega), if_neg (by omega), if_neg (by omega), if_neg (by omega)]
          refine ends_retS [2] (post := (rb, rdB x (s.wRv (.iface src.t src.rv))) :: (src.mem q' ++ (bm ++ (wm ++ em)))) (junk := []) ⟨?_, .inr ⟨by rw [hR], .inl ⟨b', rfl⟩⟩⟩ rfl (by rw [List.append_nil]; exact MEqv.refl _)
          rw [hR]
          exact ⟨x, _, q', bm, wm, em, rfl, h1, hps, rfl, hsc', hfl, hrem, hSb, hbl, hws, hb, hw, fun h => ⟨(hx h).len, (hx h).acc, (hx h).cnt, (hx h).buf, (hx h).byte⟩, hext⟩
  · rintro ⟨p2, m2, k2⟩ f ⟨hm2, hk2, hE⟩
    dsimp only at hm2 hk2 hE ⊢
    rw [hE, show decide (((h % 2 : Nat) : Int) ≠ 0) = decide (h % 2 ≠ 0) by rw [decide_eq_decide]; omega]
    exact rendJ src hd Ext rb p2 m2 hm2 hN (decide (h % 2 ≠ 0)) k2 hk2 (fun v m' => RdM src Ext rb (rdEnd dat N (decide (h % 2 ≠ 0)) p2).1 m' ∧ ((rdEnd dat N (decide (h % 2 ≠ 0)) p2).2 = true ∧ v = .nilIface ∨ (rdEnd dat N (decide (h % 2 ≠ 0)) p2).2 = false ∧ ErrB S v)) (fun v m' a b => ⟨a, b.imp id fun b => ⟨b.1, .inl b.2⟩⟩) c h0 hex f

set_option maxHeartbeats 2000000 in
theorem rblk_t (src : Source S dat N) (hd : ∀ i, dat i < 256) {E : Type} (Ext : E → RX → Mem → Prop) (cmp : PS E → Nat → PS E × Bool) (can : PS E → Nat → Prop) (hcmp : CmpT src Ext cmp can) (rb : Nat) (p : PS E) (m : Mem) (hm : RdM src Ext rb p m) (hN : N ≤ 2 ^ 62)
    (hcan : 3 ≤ N - p.pos → hdr3 dat p.pos / 2 % 4 = 2 → can { p with pos := p.pos + 3 } (hdr3 dat p.pos / 8)) :
    Trip Tryd.prog G 52 #[.pointer (some ⟨rb, 0, none⟩)] m (fun v m' => RdM src Ext rb (rdBlk dat N cmp p).1 m' ∧ ((rdBlk dat N cmp p).2 = true ∧ v = .nilIface ∨ (rdBlk dat N cmp p).2 = false ∧ ErrB S v)) := by
  obtain ⟨x, s, q0, bm, wm, em, rfl, hok, hpos, hrv, hscr, hfl, hrem, hSb, hbl, hws, hb, hw, hx, hext⟩ := hm
  refine Trip_of Tryd.func52 rfl (by show 1 ≤ _; decide) (args := [.pointer (some ⟨rb, 0, none⟩)]) fun c h0 hex => ?_
  have lim := src.le q0 hok
  rw [← s.wRv_self, hrv]
  refine go _ ?_
  refine ro_callT (rfull_t src q0 rb x (s.wRv (.iface src.t src.rv)) 3 hok (by omega)) ?_
  rintro v m ⟨q', k, h1, h2, h3, rfl, rfl⟩
  have hsc' : ∀ i, ov s.scr k dat (src.pos q0) i < 256 := fun i => by unfold ov; split; exact hd _; exact hscr _
  by_cases h4 : 3 ≤ k
  · rw [fullV_ok h4]
    obtain rfl : k = 3 := by omega
    have hs0 : ov s.scr 3 dat (src.pos q0) 0 = dat p.pos := by rw [hpos]; rfl
    have hs1 : ov s.scr 3 dat (src.pos q0) 1 = dat (p.pos + 1) := by rw [hpos]; rfl
    have hs2 : ov s.scr 3 dat (src.pos q0) 2 = dat (p.pos + 2) := by rw [hpos]; rfl
    change RO Tryd.prog G _ _ _ _ _ _ _ _ ((rb, rdB x ((s.wRv (.iface src.t src.rv)).wScr (ov s.scr 3 dat (src.pos q0)))) :: src.mem q' ++ _)
    generalize ov s.scr 3 dat (src.pos q0) = scr at hs0 hs1 hs2 hsc' ⊢
    have b0 := hsc' 0; have b1 := hsc' 1; have b2 := hsc' 2
    refine go _ ?_
    refine ro_orA 8 rfl rfl (by omega) (by omega) (by omega) (by omega) rfl (by show _ < (2:Int)^32; omega) rfl ?_
    refine go _ ?_
    refine ro_orA 16 rfl rfl (by omega) (by omega) (by omega) (by omega) rfl (by show _ < (2:Int)^32; omega) rfl ?_
    have he : ((scr 0 : Nat) : Int) + ((scr 1 * 2 ^ 8 : Nat) : Int) + ((scr 2 * 2 ^ 16 : Nat) : Int) = ((hdr3 dat p.pos : Nat) : Int) := by unfold hdr3; omega
    rw [he]
    clear he
    have hh24 : hdr3 dat p.pos < 16777216 := by
      have := hd p.pos; have := hd (p.pos + 1); have := hd (p.pos + 2); unfold hdr3; omega
    have hcan' := hcan (by omega)
    generalize hh : hdr3 dat p.pos = h at hh24 hcan' ⊢
    have key : ∀ f, h / 8 ≤ 131072 → (0 < s.wsz → h / 8 ≤ s.wsz) → J Tryd.prog G c Tryd.f52.ntmps h0 (seqDrop 9 (codeOf Tryd.f52.body)) (Eng.Ends Tryd.prog G c Tryd.f52 h0 fun v m' => RdM src Ext rb (rdBlk dat N cmp p).1 m' ∧ ((rdBlk dat N cmp p).2 = true ∧ v = .nilIface ∨ (rdBlk dat N cmp p).2 = false ∧ ErrB S v))
        (setL f [(0, .pointer (some ⟨rb, 0, none⟩)), (3, .int .i64 3), (7, .bool (decide (((h % 2 : Nat) : Int) ≠ 0))), (8, .int .u32 ((h / 2 % 4 : Nat) : Int)), (9, .int .i64 ((h / 8 : Nat) : Int))]) ((rb, rdB x ((s.wRv (.iface src.t src.rv)).wScr scr)) :: (src.mem q' ++ (bm ++ (wm ++ em)))) := by
      intro f hz1 hz2
      rw [hfl.2.2.2.2.2.2] at hz2
      exact rblkK src hd Ext cmp can hcmp rb p hN x (s.wScr scr) q' bm wm em h1 (by omega) hsc' hfl hrem hSb hbl hws hb hw (fun h => ⟨(hx h).len, (hx h).acc, (hx h).cnt, (hx h).buf, (hx h).byte⟩) hext h hh hh24 (by omega) hcan' hz1 hz2 c h0 hex f
    refine go _ ?_
    rw [show h / 2 ^ 1 = h / 2 by rw [Nat.pow_one], show h / 2 ^ 3 = h / 8 from rfl]
    refine ro_splitP 74 rfl (fun hbig => ?_) (fun hsm => ?_)
    · refine go _ ?_
      refine ro_callT (merr_t S rb x _ _ _) ?_
      rintro v m ⟨⟨b', rfl⟩, rfl⟩
      refine go _ ?_
      refine J_ret ?_
      have hR : rdBlk dat N cmp p = ({ p with pos := p.pos + 3 }, false) := by
        unfold rdBlk; rw [if_neg (by omega)]; dsimp only; rw [hh, if_pos (.inl (by omega))]
      refine ends_retS [2] (post := (rb, rdB x ((s.wRv (.iface src.t src.rv)).wScr scr)) :: (src.mem q' ++ (bm ++ (wm ++ em)))) (junk := []) ⟨?_, .inr ⟨by rw [hR], .inl ⟨b', rfl⟩⟩⟩ rfl (by rw [List.append_nil]; exact MEqv.refl _)
      rw [hR]
      exact ⟨x, _, q', bm, wm, em, rfl, h1, by show src.pos q' = p.pos + 3; omega, rfl, hsc', hfl, hrem, hSb, hbl, hws, hb, hw, fun h => ⟨(hx h).len, (hx h).acc, (hx h).cnt, (hx h).buf, (hx h).byte⟩, hext⟩
    · refine go _ ?_
      refine ro_splitP 81 rfl (fun hw0 => ?_) (fun hw0 => ?_)
      · refine go _ ?_
        refine J_condP rfl (fun hgt => ?_) (fun hle => ?_)
        · refine go _ ?_
          refine ro_callT (merr_t S rb x _ _ _) ?_
          rintro v m ⟨⟨b', rfl⟩, rfl⟩
          refine go _ ?_
          refine J_ret ?_
          have hR : rdBlk dat N cmp p = ({ p with pos := p.pos + 3 }, false) := by
            unfold rdBlk; rw [if_neg (by omega)]; dsimp only; rw [hh, if_pos (.inr (by omega))]
          refine ends_retS [2] (post := (rb, rdB x ((s.wRv (.iface src.t src.rv)).wScr scr)) :: (src.mem q' ++ (bm ++ (wm ++ em)))) (junk := []) ⟨?_, .inr ⟨by rw [hR], .inl ⟨b', rfl⟩⟩⟩ rfl (by rw [List.append_nil]; exact MEqv.refl _)
          rw [hR]
          exact ⟨x, _, q', bm, wm, em, rfl, h1, by show src.pos q' = p.pos + 3; omega, rfl, hsc', hfl, hrem, hSb, hbl, hws, hb, hw, fun h => ⟨(hx h).len, (hx h).acc, (hx h).cnt, (hx h).buf, (hx h).byte⟩, hext⟩
        · refine J_skip ?_
          exact J_cutHere [(0, .pointer (some ⟨rb, 0, none⟩)), (3, .int .i64 3), (7, .bool (decide (((h % 2 : Nat) : Int) ≠ 0))), (8, .int .u32 ((h / 2 % 4 : Nat) : Int)), (9, .int .i64 ((h / 8 : Nat) : Int))] _ ⟨rfl, rfl, rfl, rfl, rfl, trivial⟩ (.refl _) fun f => key f (by omega) (fun _ => by omega)
      · refine runO _ ?_
        refine J_condF' rfl (by with_reducible rfl) ?_
        refine J_skip ?_
        exact J_cutHere [(0, .pointer (some ⟨rb, 0, none⟩)), (3, .int .i64 3), (7, .bool (decide (((h % 2 : Nat) : Int) ≠ 0))), (8, .int .u32 ((h / 2 % 4 : Nat) : Int)), (9, .int .i64 ((h / 8 : Nat) : Int))] _ ⟨rfl, rfl, rfl, rfl, rfl, trivial⟩ (.refl _) fun f => key f (by omega) (fun _ => by omega)
  · have hR : rdBlk dat N cmp p = ({ p with pos := N }, false) := by
      unfold rdBlk; rw [if_pos (by omega)]
    have hfin : RdM src Ext rb (rdBlk dat N cmp p).1 ((rb, rdB x ((s.wRv (.iface src.t src.rv)).wScr (ov s.scr k dat (src.pos q0)))) :: (src.mem q' ++ (bm ++ (wm ++ em)))) := by
      rw [hR]
      exact ⟨x, _, q', bm, wm, em, rfl, h1, by show src.pos q' = N; omega, rfl, hsc', hfl, hrem, hSb, hbl, hws, hb, hw, fun h => ⟨(hx h).len, (hx h).acc, (hx h).cnt, (hx h).buf, (hx h).byte⟩, hext⟩
    by_cases h5 : k = 0
    · rw [fullV_eof h4 h5]
      refine go _ ?_
      refine ro_callT (wnonE_t S rb x _ _) ?_
      rintro v m ⟨⟨b', rfl⟩, rfl⟩
      refine go _ ?_
      refine J_ret ?_
      refine ends_retS [2] (post := (rb, rdB x ((s.wRv (.iface src.t src.rv)).wScr (ov s.scr k dat (src.pos q0)))) :: (src.mem q' ++ (bm ++ (wm ++ em)))) (junk := []) ⟨hfin, .inr ⟨by rw [hR], .inl ⟨b', rfl⟩⟩⟩ rfl (by rw [List.append_nil]; exact MEqv.refl _)
    · rw [fullV_ueof h4 h5]
      refine go _ ?_
      refine ro_callT (wnonU_t S rb x _ _) ?_
      rintro v m ⟨⟨b', rfl⟩, rfl⟩
      refine go _ ?_
      refine J_ret ?_
      refine ends_retS [2] (post := (rb, rdB x ((s.wRv (.iface src.t src.rv)).wScr (ov s.scr k dat (src.pos q0)))) :: (src.mem q' ++ (bm ++ (wm ++ em)))) (junk := []) ⟨hfin, .inr ⟨by rw [hR], .inl ⟨b', rfl⟩⟩⟩ rfl (by rw [List.append_nil]; exact MEqv.refl _)
end Go.Proofs.YtogmacnlpclgkaaDoor
