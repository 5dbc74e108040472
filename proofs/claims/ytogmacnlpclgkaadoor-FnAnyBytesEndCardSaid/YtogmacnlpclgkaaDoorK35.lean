/-
  TEXTS MERGED: C22, P9, C23, C24.
-/
import Derived.Test.YtogmacnlpclgkaaDoorK32
import Derived.Test.YtogmacnlpclgkaaDoorK33
import Derived.Test.YtogmacnlpclgkaaDoorK34
import Derived.Test.YtogmacnlpclgkaaDoorK27
/-! COMPRESSED BLOCKS 22: the head of the sequences and their tables. -/
namespace Go.Proofs.YtogmacnlpclgkaaDoor
open Go Go.Eng Go.Pz
attribute [local irreducible] RO J Trip Quiet
set_option maxRecDepth 20000
variable {G : Mem} {d : Nat → Nat}

/-- Only the tables differ. -/
def Only (s s' : RS) : Prop := ∃ a0 a1 a2 b0 b1 b2 c0 c1 c2 fs, s' = (s.wSeq a0 a1 a2 b0 b1 b2 c0 c1 c2).wFs fs
theorem Only.refl (s : RS) : Only s s := ⟨s.st0, s.st1, s.st2, s.sb0, s.sb1, s.sb2, s.tb0, s.tb1, s.tb2, s.fs, rfl⟩
theorem Only.trans {a b c : RS} (h : Only a b) (h' : Only b c) : Only a c := by
  obtain ⟨_, _, _, _, _, _, _, _, _, _, rfl⟩ := h
  obtain ⟨a0, a1, a2, b0, b1, b2, c0, c1, c2, fs, rfl⟩ := h'
  exact ⟨a0, a1, a2, b0, b1, b2, c0, c1, c2, fs, rfl⟩
theorem only0 (s : RS) (st tb : Value) (sb : Nat) (fs : Value) : Only s (s.w0K st tb sb fs) := ⟨st, s.st1, s.st2, sb, s.sb1, s.sb2, tb, s.tb1, s.tb2, fs, rfl⟩
theorem only1 (s : RS) (st tb : Value) (sb : Nat) (fs : Value) : Only s (s.w1K st tb sb fs) := ⟨s.st0, st, s.st2, s.sb0, sb, s.sb2, s.tb0, tb, s.tb2, fs, rfl⟩
theorem only2 (s : RS) (st tb : Value) (sb : Nat) (fs : Value) : Only s (s.w2K st tb sb fs) := ⟨s.st0, s.st1, st, s.sb0, s.sb1, sb, s.tb0, s.tb1, tb, fs, rfl⟩

/-- The tables of a Reader. -/
structure TabM (s : RS) (e : CE) (m0 m1 m2 fm : Mem) : Prop where
  t0 : SqM 0 s.st0 s.tb0 s.sb0 e.t0 m0
  t1 : SqM 1 s.st1 s.tb1 s.sb1 e.t1 m1
  t2 : SqM 2 s.st2 s.tb2 s.sb2 e.t2 m2
  fs : FsM s.fs fm
def SqP (S : Sent G) (rb : Nat) (x : Int) (s : RS) (R : CE × Option (Nat × Nat)) (v : Value) (m : Mem) : Prop :=
  ∃ s' m0 m1 m2 fm, Only s s' ∧ TabM s' R.1 m0 m1 m2 fm ∧ m = (rb, rdB x s') :: (m0 ++ (m1 ++ (m2 ++ fm))) ∧
    match R.2 with
    | some (c, o) => v = .tuple #[.int .i64 (c : Nat), .int .i64 (o : Nat), .nilIface]
    | none => ∃ e, v = .tuple #[.int .i64 0, .int .i64 0, e] ∧ ErrV S .z e

theorem setTab_le {t : Option STab} {kind mode n off o : Nat} {T : STab} (h : setTab t kind mode d n off = some (T, o)) (hoff : off ≤ n) (_hk : kind < 3) : o ≤ n := by
  unfold setTab at h
  split at h
  · cases h; exact hoff
  split at h
  · split at h
    · cases h
    split at h
    · cases h
    · cases h; omega
  split at h
  · obtain ⟨⟨log, sh, c, q⟩, hP, e⟩ := Option.map_eq_some_iff.1 h
    cases e
    have h9 := (probs_ok hP (by unfold sqLog; split <;> omega)).2.2.2
    show (q + 7) / 8 ≤ n
    omega
  · obtain ⟨T', _, e⟩ := Option.map_eq_some_iff.1 h
    cases e; exact hoff

set_option maxHeartbeats 4000000 in
theorem init_t (S : Sent G) (hB0 : BaseG G 4 litBase) (hB2 : BaseG G 5 matBase) (rb : Nat) (x : Int) (s : RS) (da : Option Addr) (n cp : Nat) (hd : ∀ i, d i < 256) (hv : View G da n cp d) (hn : n ≤ 2 ^ 20) (off : Nat) (hoff : off ≤ n) (e : CE) (m0 m1 m2 fm : Mem) (hT : TabM s e m0 m1 m2 fm) :
    Trip Tryd.prog G 59 #[.pointer (some ⟨rb, 0, none⟩), .slice da n cp, .int .i64 (off : Nat)] ((rb, rdB x s) :: (m0 ++ (m1 ++ (m2 ++ fm)))) (SqP S rb x s (sqInit e d n off)) := by
  refine Trip_of Tryd.func59 rfl (by show 3 ≤ _; decide) (args := [.pointer (some ⟨rb, 0, none⟩), .slice da n cp, .int .i64 (off : Nat)]) fun c h0 hex => ?_
  have hbad : sqInit e d n off = (e, none) → ∀ er, ErrV S .z er → SqP S rb x s (sqInit e d n off) (.tuple #[.int .i64 0, .int .i64 0, er]) ((rb, rdB x s) :: (m0 ++ (m1 ++ (m2 ++ fm)))) := fun h er he => by
    rw [h]; exact ⟨s, m0, m1, m2, fm, Only.refl s, hT, rfl, er, rfl, he⟩
  refine go _ ?_
  refine J_condP rfl (fun hbig => ?_) (fun hlt => ?_)
  · have hR : sqInit e d n off = (e, none) := by unfold sqInit sqHd; rw [if_pos (by omega)]
    refine go _ ?_
    refine ro_callT (meof_t S rb x s _) ?_
    rintro v m ⟨⟨b', rfl⟩, rfl⟩
    refine go _ ?_
    refine J_ret ?_
    exact ends_retS [6, 7, 8] (post := (rb, rdB x s) :: (m0 ++ (m1 ++ (m2 ++ fm)))) (hbad hR _ ⟨b', rfl⟩)
  have hn0 : off < n := by omega
  obtain ⟨b0, z0, rfl⟩ := hv.some (by omega)
  obtain ⟨h, hh⟩ : ∃ h, h = d off := ⟨_, rfl⟩
  have hhb := hd off
  rw [← hh] at hhb
  refine go _ ?_
  rw [← hh]
  refine go _ ?_
  refine J_condP rfl (fun hz => ?_) (fun hz => ?_)
  · have hR : sqInit e d n off = (e, some (0, off + 1)) := by
      unfold sqInit sqHd
      rw [if_neg (by omega), ← hh, if_pos (by omega)]
      dsimp only
      rw [if_pos (by omega)]
    refine go _ ?_
    refine J_ret ?_
    refine ends_retS [6, 7, 8] (post := (rb, rdB x s) :: (m0 ++ (m1 ++ (m2 ++ fm)))) ?_
    rw [hR]
    exact ⟨s, m0, m1, m2, fm, Only.refl s, hT, rfl, rfl⟩
  have hR : sqInit e d n off = match sqHd d n off with
    | none => (e, none)
    | some (c, o) => if n ≤ o then (e, none) else if d o % 4 ≠ 0 then (e, none) else ((sqTabs e d n (o + 1) (d o)).1, (sqTabs e d n (o + 1) (d o)).2.map fun q => (c, q)) := by
    unfold sqInit
    rw [← hh]
    cases sqHd d n off with
    | none => rfl
    | some r => obtain ⟨c, o⟩ := r; dsimp only; rw [if_neg (by omega)]
  refine go _ ?_
  refine J_joinE (σ := Nat × Nat) [0, 1] (fun t => [(2, .int .i64 (t.2 : Nat)), (10, .int .i64 (t.1 : Nat))]) (fun _ => (rb, rdB x s) :: (m0 ++ (m1 ++ (m2 ++ fm)))) (fun t => sqHd d n off = some t ∧ t.2 ≤ n ∧ t.1 ≤ 2 ^ 20) ?_ ?_
  · have hH : sqHd d n off = if h < 128 then some (h, off + 1) else if h < 255 then (if n ≤ off + 1 then none else some ((h - 128) * 256 + d (off + 1), off + 2)) else if n ≤ off + 2 then none else some (d (off + 1) + d (off + 2) * 256 + 32512, off + 3) := by
      unfold sqHd; rw [if_neg (by omega), ← hh]
    have hd1 := hd (off + 1)
    have hd2 := hd (off + 2)
    have hd2' := hd (off + 1 + 1)
    refine J_condP rfl (fun h1 => ?_) (fun h1 => ?_)
    · refine go _ ?_
      exact ⟨(h, off + 1), ⟨by rw [hH, if_pos (by omega)], by dsimp only; omega, by dsimp only; omega⟩, joined (.refl _)⟩
    · refine go _ ?_
      refine J_condP rfl (fun h2 => ?_) (fun h2 => ?_)
      · refine go _ ?_
        refine J_condP rfl (fun h3 => ?_) (fun h3 => ?_)
        · rw [show sqHd d n off = none by rw [hH, if_neg (by omega), if_pos (by omega), if_pos (by omega)]] at hR
          refine go _ ?_
          refine ro_callT (meof_t S rb x s _) ?_
          rintro v m ⟨⟨b', rfl⟩, rfl⟩
          refine go _ ?_
          refine J_ret ?_
          exact ends_retS [6, 7, 8] (post := (rb, rdB x s) :: (m0 ++ (m1 ++ (m2 ++ fm)))) (hbad hR _ ⟨b', rfl⟩)
        · refine go _ ?_
          exact ⟨((h - 128) * 256 + d (off + 1), off + 2), ⟨by rw [hH, if_neg (by omega), if_pos (by omega), if_neg (by omega)], by dsimp only; omega, by dsimp only; omega⟩, joined (.refl _)⟩
      · refine go _ ?_
        refine J_condP rfl (fun h3 => ?_) (fun h3 => ?_)
        · rw [show sqHd d n off = none by rw [hH, if_neg (by omega), if_neg (by omega), if_pos (by omega)]] at hR
          refine go _ ?_
          refine ro_callT (meof_t S rb x s _) ?_
          rintro v m ⟨⟨b', rfl⟩, rfl⟩
          refine go _ ?_
          refine J_ret ?_
          exact ends_retS [6, 7, 8] (post := (rb, rdB x s) :: (m0 ++ (m1 ++ (m2 ++ fm)))) (hbad hR _ ⟨b', rfl⟩)
        · refine go _ ?_
          exact ⟨(d (off + 1) + d (off + 2) * 256 + 32512, off + 3), ⟨by rw [hH, if_neg (by omega), if_neg (by omega), if_neg (by omega)], by dsimp only; omega, by dsimp only; omega⟩, joined (.refl _)⟩
  · rintro ⟨cn, o⟩ f ⟨g1, g2, g3⟩
    dsimp only at g2 g3
    rw [g1] at hR
    dsimp only at hR ⊢
    refine go _ ?_
    refine J_condP rfl (fun h1 => ?_) (fun h1 => ?_)
    · rw [if_pos (by omega)] at hR
      refine go _ ?_
      refine ro_callT (meof_t S rb x s _) ?_
      rintro v m ⟨⟨b', rfl⟩, rfl⟩
      refine go _ ?_
      refine J_ret ?_
      exact ends_retS [6, 7, 8] (post := (rb, rdB x s) :: (m0 ++ (m1 ++ (m2 ++ fm)))) (hbad hR _ ⟨b', rfl⟩)
    rw [if_neg (by omega)] at hR
    obtain ⟨md, hmd⟩ : ∃ md, md = d o := ⟨_, rfl⟩
    have hmb := hd o
    rw [← hmd] at hmb hR
    refine go _ ?_
    rw [← hmd]
    refine go _ ?_
    refine J_condP rfl (fun h4 => ?_) (fun h4 => ?_)
    · rw [if_pos (by omega)] at hR
      refine go _ ?_
      refine ro_callT (merr_t S rb x s _ _) ?_
      rintro v m ⟨⟨b', rfl⟩, rfl⟩
      refine go _ ?_
      refine J_ret ?_
      exact ends_retS [6, 7, 8] (post := (rb, rdB x s) :: (m0 ++ (m1 ++ (m2 ++ fm)))) (hbad hR _ ⟨b', rfl⟩)
    rw [if_neg (by omega)] at hR
    unfold sqTabs at hR
    refine go _ ?_
    have q0 : Trip _ _ _ _ ((rb, rdB x s) :: (m0 ++ fm)) _ := setTab0_t S hB0 rb x s _ n cp hd hv hn (o + 1) (md / 2 ^ 6 % 4) (by omega) (by omega) s.st0 s.tb0 s.sb0 s.fs e.t0 m0 fm hT.t0 hT.fs
    refine ro_callT q0 ?_ (fm := m1 ++ m2) (hs := .of_perm (by classical exact List.perm_iff_count.2 fun a => by first | (simp only [List.count_append, List.count_cons, List.count_nil]; omega) | (simp only [List.append_eq, List.count_append, List.count_cons, List.count_nil]; omega)))
    rintro v m hvm
    rw [show md / 2 ^ 6 % 4 = md / 64 % 4 from rfl] at hvm
    cases hK0 : setTab e.t0 0 (md / 64 % 4) d n (o + 1) with
    | none =>
      rw [hK0] at hvm hR
      obtain ⟨e', tb', sm', fs', fm', k1, k2, rfl, ⟨b', rfl⟩, rfl⟩ := hvm
      refine go _ ?_
      refine J_ret ?_
      refine ends_retS [6, 7, 8] (post := (rb, rdB x (s.w0K s.st0 tb' s.sb0 fs')) :: (sm' ++ (m1 ++ (m2 ++ fm')))) (junk := []) ?_ rfl (.of_perm (by classical exact List.perm_iff_count.2 fun a => by first | (simp only [List.count_append, List.count_cons, List.count_nil]; omega) | (simp only [List.append_eq, List.count_append, List.count_cons, List.count_nil]; omega)))
      rw [hR]
      exact ⟨_, sm', m1, m2, fm', only0 s _ _ _ _, ⟨k1, hT.t1, hT.t2, k2⟩, rfl, _, rfl, b', rfl⟩
    | some r0 =>
      obtain ⟨T0, o1⟩ := r0
      have ho1 := setTab_le hK0 (by omega) (by decide)
      rw [hK0] at hvm hR
      dsimp only at hR
      obtain ⟨st0, tb0, n0, fs0, f0, k1, k2, rfl, rfl⟩ := hvm
      refine go _ ?_
      have q1 : Trip _ _ _ _ ((rb, rdB x (s.w0K st0 tb0 T0.log fs0)) :: (m1 ++ f0)) _ := setTab1_t S rb x (s.w0K st0 tb0 T0.log fs0) _ n cp hd hv hn o1 (md / 2 ^ 4 % 4) ho1 (by omega) s.st1 s.tb1 s.sb1 fs0 e.t1 m1 f0 hT.t1 k2
      refine ro_callT q1 ?_ (fm := n0 ++ m2) (hs := .of_perm (by classical exact List.perm_iff_count.2 fun a => by first | (simp only [List.count_append, List.count_cons, List.count_nil]; omega) | (simp only [List.append_eq, List.count_append, List.count_cons, List.count_nil]; omega)))
      rintro v m hvm
      rw [show md / 2 ^ 4 % 4 = md / 16 % 4 from rfl] at hvm
      cases hK1 : setTab e.t1 1 (md / 16 % 4) d n o1 with
      | none =>
        rw [hK1] at hvm hR
        obtain ⟨e', tb', sm', fs', fm', k3, k4, rfl, ⟨b', rfl⟩, rfl⟩ := hvm
        refine go _ ?_
        refine J_ret ?_
        refine ends_retS [6, 7, 8] (post := (rb, rdB x ((s.w0K st0 tb0 T0.log fs0).w1K s.st1 tb' s.sb1 fs')) :: (n0 ++ (sm' ++ (m2 ++ fm')))) (junk := []) ?_ rfl (.of_perm (by classical exact List.perm_iff_count.2 fun a => by first | (simp only [List.count_append, List.count_cons, List.count_nil]; omega) | (simp only [List.append_eq, List.count_append, List.count_cons, List.count_nil]; omega)))
        rw [hR]
        exact ⟨_, n0, sm', m2, fm', (only0 s _ _ _ _).trans (only1 _ _ _ _ _), ⟨k1, k3, hT.t2, k4⟩, rfl, _, rfl, b', rfl⟩
      | some r1 =>
        obtain ⟨T1, o2⟩ := r1
        have ho2 := setTab_le hK1 ho1 (by decide)
        rw [hK1] at hvm hR
        dsimp only at hR
        obtain ⟨st1, tb1, n1, fs1, f1, k3, k4, rfl, rfl⟩ := hvm
        refine go _ ?_
        have q2 : Trip _ _ _ _ ((rb, rdB x ((s.w0K st0 tb0 T0.log fs0).w1K st1 tb1 T1.log fs1)) :: (m2 ++ f1)) _ := setTab2_t S hB2 rb x ((s.w0K st0 tb0 T0.log fs0).w1K st1 tb1 T1.log fs1) _ n cp hd hv hn o2 (md / 2 ^ 2 % 4) ho2 (by omega) s.st2 s.tb2 s.sb2 fs1 e.t2 m2 f1 hT.t2 k4
        refine ro_callT q2 ?_ (fm := n0 ++ n1) (hs := .of_perm (by classical exact List.perm_iff_count.2 fun a => by first | (simp only [List.count_append, List.count_cons, List.count_nil]; omega) | (simp only [List.append_eq, List.count_append, List.count_cons, List.count_nil]; omega)))
        rintro v m hvm
        rw [show md / 2 ^ 2 % 4 = md / 4 % 4 from rfl] at hvm
        cases hK2 : setTab e.t2 2 (md / 4 % 4) d n o2 with
        | none =>
          rw [hK2] at hvm hR
          obtain ⟨e', tb', sm', fs', fm', k5, k6, rfl, ⟨b', rfl⟩, rfl⟩ := hvm
          refine go _ ?_
          refine J_ret ?_
          refine ends_retS [6, 7, 8] (post := (rb, rdB x (((s.w0K st0 tb0 T0.log fs0).w1K st1 tb1 T1.log fs1).w2K s.st2 tb' s.sb2 fs')) :: (n0 ++ (n1 ++ (sm' ++ fm')))) (junk := []) ?_ rfl (.of_perm (by classical exact List.perm_iff_count.2 fun a => by first | (simp only [List.count_append, List.count_cons, List.count_nil]; omega) | (simp only [List.append_eq, List.count_append, List.count_cons, List.count_nil]; omega)))
          rw [hR]
          exact ⟨_, n0, n1, sm', fm', ((only0 s _ _ _ _).trans (only1 _ _ _ _ _)).trans (only2 _ _ _ _ _), ⟨k1, k3, k5, k6⟩, rfl, _, rfl, b', rfl⟩
        | some r2 =>
          obtain ⟨T2, o3⟩ := r2
          rw [hK2] at hvm hR
          dsimp only at hR
          obtain ⟨st2, tb2, n2, fs2, f2, k5, k6, rfl, rfl⟩ := hvm
          refine go _ ?_
          refine J_ret ?_
          refine ends_retS [6, 7, 8] (post := (rb, rdB x (((s.w0K st0 tb0 T0.log fs0).w1K st1 tb1 T1.log fs1).w2K st2 tb2 T2.log fs2)) :: (n0 ++ (n1 ++ (n2 ++ f2)))) (junk := []) ?_ rfl (.of_perm (by classical exact List.perm_iff_count.2 fun a => by first | (simp only [List.count_append, List.count_cons, List.count_nil]; omega) | (simp only [List.append_eq, List.count_append, List.count_cons, List.count_nil]; omega)))
          rw [hR]
          exact ⟨_, n0, n1, n2, f2, ((only0 s _ _ _ _).trans (only1 _ _ _ _ _)).trans (only2 _ _ _ _ _), ⟨k1, k3, k5, k6⟩, rfl, rfl⟩
end Go.Proofs.YtogmacnlpclgkaaDoor

/-! PLAIN LAWS 9: a match copied in parts. -/
namespace Go.Proofs.YtogmacnlpclgkaaDoor
open Go Go.Eng Go.Pz

theorem apD_zero (S : Nat → Nat) (bl : Nat) (T : Nat → Nat) : apD S bl 0 T = S := by
  funext i; unfold apD; rw [if_neg (by omega)]
theorem apD_in {S : Nat → Nat} {bl k : Nat} {T : Nat → Nat} {i : Nat} (h1 : bl ≤ i) (h2 : i < bl + k) : apD S bl k T i = T (i - bl) := if_pos ⟨h1, h2⟩
theorem apD_out {S : Nat → Nat} {bl k : Nat} {T : Nat → Nat} {i : Nat} (h : i < bl ∨ bl + k ≤ i) : apD S bl k T i = S i := if_neg (by omega)
theorem apD_congr {S : Nat → Nat} {bl k : Nat} {T T' : Nat → Nat} (h : ∀ i, i < k → T i = T' i) : apD S bl k T = apD S bl k T' := by
  funext i; unfold apD; split
  · exact h _ (by omega)
  · rfl
theorem apD_succ (S : Nat → Nat) (bl k : Nat) (T : Nat → Nat) : apD S bl (k + 1) T = updN (apD S bl k T) (bl + k) (T k) := by
  funext i
  by_cases h : i = bl + k
  · subst h; rw [updN_same, apD_in (by omega) (by omega)]; congr 1; omega
  · rw [updN_other _ _ _ _ h]
    by_cases h2 : bl ≤ i ∧ i < bl + k
    · rw [apD_in h2.1 h2.2, apD_in h2.1 (by omega)]
    · rw [apD_out (by omega), apD_out (by omega)]
section
variable {S : Nat → Nat} {bl : Nat} {L : Nat → Nat} {wl o : Nat}
theorem mcp_low {i t : Nat} (hi : i < bl + t) : ∀ {j : Nat}, t ≤ j → mcp S bl L wl o j i = mcp S bl L wl o t i := by
  intro j hj
  induction j with
  | zero => obtain rfl : t = 0 := by omega
            rfl
  | succ j ih =>
    by_cases h : t = j + 1
    · rw [h]
    · rw [mcp, updN_other _ _ _ _ (by omega), ih (by omega)]
theorem mcp_at {t j : Nat} (h : t < j) (ho : 0 < o) : mcp S bl L wl o j (bl + t) = if bl + t < o then L (wl + (bl + t) - o) else mcp S bl L wl o j (bl + t - o) := by
  rw [mcp_low (t := t + 1) (by omega) (by omega)]
  conv => lhs; rw [mcp, updN_same]
  split
  · rfl
  · rw [mcp_low (t := t) (j := j) (by omega) (by omega)]
/-- What lies ahead of the text comes from the window. -/
theorem mcp_win : ∀ {k : Nat}, bl + k ≤ o → mcp S bl L wl o k = apD S bl k fun i => L (wl + (bl + i) - o)
  | 0, _ => (apD_zero _ _ _).symm
  | k + 1, h => by rw [mcp, if_pos (by omega), mcp_win (by omega), apD_succ]
theorem mcp_per {fr j : Nat} (ho : 0 < o) (hfr : fr = bl - o) {i : Nat} (h1 : fr + o ≤ i) (h1' : bl ≤ i) (h2 : i < bl + j) : mcp S bl L wl o j i = mcp S bl L wl o j (i - o) := by
  have := mcp_at (S := S) (bl := bl) (L := L) (wl := wl) (o := o) (t := i - bl) (j := j) (by omega) ho
  rw [show bl + (i - bl) = i by omega, if_neg (by omega)] at this
  exact this
theorem mcp_mul {fr j r : Nat} (ho : 0 < o) (hfr : fr = bl - o) : ∀ q : Nat, bl ≤ fr + o → fr + r + q * o < bl + j → mcp S bl L wl o j (fr + r + q * o) = mcp S bl L wl o j (fr + r)
  | 0, _, _ => by rw [Nat.zero_mul, Nat.add_zero]
  | q + 1, h0, h => by
    rw [Nat.add_mul, Nat.one_mul] at h ⊢
    rw [mcp_per (fr := fr) ho hfr (by omega) (by omega) (by omega), show fr + r + (q * o + o) - o = fr + r + q * o by omega]
    exact mcp_mul ho hfr q h0 (by omega)
/-- What lies in the text already may be copied at once, up to a whole number of offsets. -/
theorem mcp_rep {fr j q : Nat} (ho : 0 < o) (hfr : fr = bl - o) (h0 : bl ≤ fr + o) (hq : 0 < q) (hj : bl + j = fr + q * o) : ∀ {k : Nat}, k ≤ q * o → mcp S bl L wl o (j + k) = apD (mcp S bl L wl o j) (bl + j) k fun i => mcp S bl L wl o j (fr + i) := by
  intro k
  have hqo : o ≤ q * o := Nat.le_mul_of_pos_left o hq
  induction k with
  | zero => intro _; rw [apD_zero]; rfl
  | succ k ih =>
    intro hk
    have ih := ih (by omega)
    rw [apD_succ, ← ih, ← Nat.add_assoc j k 1]
    conv => lhs; rw [mcp]
    rw [if_neg (by omega), ← Nat.add_assoc bl j k]
    congr 1
    by_cases hko : k < o
    · rw [mcp_low (t := j) (by omega) (by omega), show bl + j + k - o = fr + k + (q - 1) * o by
        have : q * o = (q - 1) * o + o := by rw [← Nat.add_one_mul]; congr 1; omega
        omega]
      exact mcp_mul ho hfr (q - 1) h0 (by
        have : q * o = (q - 1) * o + o := by rw [← Nat.add_one_mul]; congr 1; omega
        omega)
    · rw [ih, apD_in (by omega) (by omega), show fr + (bl + j + k - o - (bl + j)) = fr + k - o by omega]
      exact (mcp_per (fr := fr) ho hfr (by omega) (by omega) (by omega)).symm
end
end Go.Proofs.YtogmacnlpclgkaaDoor

/-! COMPRESSED BLOCKS 23: the window's bytes; a match. -/
namespace Go.Proofs.YtogmacnlpclgkaaDoor
open Go Go.Eng Go.Pz
attribute [local irreducible] RO J Trip Quiet
set_option maxRecDepth 20000
variable {G : Mem} {d : Nat → Nat}

theorem BufM.form {v : Value} {n : Nat} {S : Nat → Value} {sm : Mem} (h : BufM v n S sm) : ∃ oa cp, v = .slice oa n cp := by
  rcases h with ⟨rfl, rfl, _⟩ | ⟨b, cap, B, rfl, _⟩
  · exact ⟨_, _, rfl⟩
  · exact ⟨_, _, rfl⟩
theorem blit_apD {S : Nat → Nat} {bl k : Nat} {src : Nat → Value} {T : Nat → Nat} (h : ∀ i, i < k → src i = .int .u8 (T i)) : blit (u8f S) bl k src = u8f (apD S bl k T) := by
  funext i
  by_cases hi : bl ≤ i ∧ i < bl + k
  · rw [blit_in _ _ _ _ _ hi.1 hi.2, h _ (by omega)]; unfold u8f; rw [apD_in hi.1 hi.2]
  · rw [blit_out _ _ _ _ _ (by omega)]; unfold u8f; rw [apD_out (by omega)]
theorem apD_apD {S : Nat → Nat} {bl k k' : Nat} {T : Nat → Nat} : apD (apD S bl k T) (bl + k) k' (fun i => T (k + i)) = apD S bl (k + k') T := by
  funext i
  by_cases h1 : bl + k ≤ i ∧ i < bl + k + k'
  · rw [apD_in h1.1 h1.2, apD_in (by omega) (by omega)]; congr 1; omega
  · rw [apD_out (by omega)]
    by_cases h2 : bl ≤ i ∧ i < bl + k
    · rw [apD_in h2.1 h2.2, apD_in (by omega) (by omega)]
    · rw [apD_out (by omega), apD_out (by omega)]

section
variable {P : Program} [ty : TyC P] {qs : List FuncId} {c : World} {n : Nat} {h0 : Base} {ops : Array Oper} {Q : Fr → Mem → Prop} {rest : List Oper} {f : Fr} {m : Mem}
variable {dd : Option Tmp} {T T' tt : TypeId} {pos : String} {aft : Array Edge}
/-- append: bytes that lie elsewhere, behind a buffer. -/
theorem ro_appV {x y : Operand} {ats : Array TypeId} {T1 e len k yc : Nat} {v : Value} {S X : Nat → Nat} {sm fm : Mem} {ya : Option Addr} (hx : ev f x = v) (hT : ats[0]? = some T) (hTe : TyC.tk P T = .sl e) (hs : TyC.sz P e = 1)
    (hz : zeroL P e = some [.int .u8 0]) (hby : TyC.by_ P e ≤ 64) (hT1 : ats[1]? = some T1) (hT1' : isSl (TyC.tk P T1) = true)
    (hb : BufN v len S sm) (hm : m.Perm (sm ++ fm)) (hy : ev f y = .slice ya k yc) (hv : View (m ++ G) ya k yc X) (hk : len + k ≤ 2 ^ 40) (hex : h0.ex = false) (hd : dstOk n dd = true)
    (h : ∀ oa cp sm', BufN (.slice oa (len + k) cp) (len + k) (apD S len k X) sm' → RO P G qs c n h0 ops Q rest (updo f dd (.slice oa (len + k) cp)) (fm ++ sm'))
    (hQ : ∀ f m m', MEqv m m' → Q f m' → Q f m := by first | exact fun _ _ _ e h => J_eqv e h | exact fun _ _ _ e h => ends_eqv e h) :
    RO P G qs c n h0 ops Q (⟨dd, .call ⟨.builtin .append, #[x, y], ats⟩, tt, pos, aft, none⟩ :: rest) f m := by
  obtain ⟨src, h1, h2⟩ := hv.src
  refine ro_appendBF hx hT hTe hs hz hby hT1 hT1' hb hm (by rw [hy]; exact h1) (fun j hj => by rw [h2 j hj]; rfl) hk hex hd (fun v' sm' hv' _ => ?_) hQ
  rw [blit_apD h2] at hv'
  obtain ⟨oa, cp, rfl⟩ := BufM.form hv'
  exact h oa cp sm' hv'
end

def winF (ph : Nat → Nat) (wo wl : Nat) : Nat → Nat := fun i => ph (if wo + i < wl then wo + i else wo + i - wl)

set_option maxHeartbeats 4000000 in
theorem winApp_t (rb : Nat) (x : Int) (s : RS) (wa : Option Addr) (wl wcp : Nat) (ph : Nat → Nat) (hwd : s.wd = .slice wa wl wcp) (hv : View G wa wl wcp ph) (hwo : s.wo ≤ wl) (hwl : wl ≤ 2 ^ 27) (vb : Value) (bl : Nat) (Sx : Nat → Nat) (bm : Mem) (hb : BufN vb bl Sx bm) (hbl : bl ≤ 2 ^ 30) (fr to : Nat) (hft : fr ≤ to) (hto : to ≤ wl) :
    Trip Tryd.prog G 78 #[.pointer (some ⟨rb, 14, none⟩), vb, .int .u32 (fr : Nat), .int .u32 (to : Nat)] ((rb, rdB x s) :: bm) (fun v m => ∃ bm', BufN v (bl + (to - fr)) (apD Sx bl (to - fr) fun i => winF ph s.wo wl (fr + i)) bm' ∧ m = (rb, rdB x s) :: bm') := by
  obtain ⟨oa, bcp, rfl⟩ := BufM.form hb
  refine Trip_of Tryd.func78 rfl (by show 4 ≤ _; decide) (args := [.pointer (some ⟨rb, 14, none⟩), .slice oa bl bcp, .int .u32 (fr : Nat), .int .u32 (to : Nat)]) fun c h0 hex => ?_
  rw [← s.wWin_self] at hwd ⊢
  generalize s.wd = wv at hwd ⊢
  generalize s.wo = wo at hwo ⊢
  generalize s.wsz = z
  have hwd : wv = .slice wa wl wcp := hwd
  subst hwd
  have hcp := hv.le
  refine go _ ?_
  refine J_joinE (σ := Nat × Bool) [0, 1, 3, 9] (fun t => [(2, .int .u32 (t.1 : Nat)), (10, .bool t.2)]) (fun _ => (rb, rdB x (s.wWin z (.slice wa wl wcp) wo)) :: bm) (fun t => t.1 ≤ wl ∧ (fr + wo = t.1 ∧ t.2 = false ∨ fr + wo = t.1 + wl ∧ 0 < t.1 ∧ t.2 = true)) ?_ ?_
  · refine J_condP rfl (fun h => ?_) (fun h => ?_)
    · refine go _ ?_
      exact ⟨(fr + wo - wl, true), ⟨by dsimp only; omega, .inr ⟨by dsimp only; omega, by dsimp only; omega, rfl⟩⟩, joined (.refl _)⟩
    · refine go _ ?_
      exact ⟨(fr + wo, false), ⟨by dsimp only; omega, .inl ⟨rfl, rfl⟩⟩, joined (.refl _)⟩
  rintro ⟨F, b⟩ f ⟨g1, g2⟩
  dsimp only at g1 g2 ⊢
  refine go _ ?_
  refine J_joinE (σ := Nat × Bool) [0, 1, 2] (fun t => [(3, .int .u32 (t.1 : Nat)), (10, .bool t.2)]) (fun _ => (rb, rdB x (s.wWin z (.slice wa wl wcp) wo)) :: bm) (fun t => t.1 ≤ wl ∧ (t.2 = true ∧ fr + wo = F ∧ to + wo = wl + t.1 ∧ 0 < t.1 ∨ t.2 = false ∧ F ≤ t.1 ∧ (fr + wo = F ∧ to + wo = t.1 ∨ fr + wo = F + wl ∧ to + wo = t.1 + wl ∧ 0 < F))) ?_ ?_
  · refine J_condP rfl (fun h => ?_) (fun h => ?_)
    · rcases g2 with ⟨g2, rfl⟩ | ⟨g2, g3, rfl⟩
      · refine go _ ?_
        exact ⟨(to + wo - wl, true), ⟨show to + wo - wl ≤ wl by omega, .inl ⟨rfl, g2, show to + wo = wl + (to + wo - wl) by omega, show 0 < to + wo - wl by omega⟩⟩, joined (.refl _)⟩
      · refine go _ ?_
        exact ⟨(to + wo - wl, false), ⟨show to + wo - wl ≤ wl by omega, .inr ⟨rfl, show F ≤ to + wo - wl by omega, .inr ⟨g2, show to + wo = to + wo - wl + wl by omega, g3⟩⟩⟩, joined (.refl _)⟩
    · rcases g2 with ⟨g2, rfl⟩ | ⟨g2, g3, rfl⟩
      · refine go _ ?_
        exact ⟨(to + wo, false), ⟨by dsimp only; omega, .inr ⟨rfl, by dsimp only; omega, .inl ⟨g2, rfl⟩⟩⟩, joined (.refl _)⟩
      · omega
  rintro ⟨T, b'⟩ f ⟨g3, g4⟩
  dsimp only at g3 g4 ⊢
  rcases g4 with ⟨rfl, g4, g5, g6⟩ | ⟨rfl, g4, g5⟩
  · refine go _ ?_
    refine ro_slV F wl hv rfl rfl rfl rfl rfl rfl rfl (by omega) (by omega) rfl ?_
    refine go _ ?_
    refine ro_appV (fm := [(rb, rdB x (s.wWin z (.slice wa wl wcp) wo))]) rfl rfl rfl rfl z5 (by decide) rfl rfl hb ((by classical exact List.perm_iff_count.2 fun a => by first | (simp only [List.count_append, List.count_cons, List.count_nil]; omega) | (simp only [List.append_eq, List.count_append, List.count_cons, List.count_nil]; omega))) rfl (hv.sub (by omega) (Nat.le_refl _)).add (by omega) hex rfl ?_
    intro oa bcp sm hb2
    refine go _ ?_
    refine ro_slVT T hv rfl rfl rfl rfl rfl (by omega) rfl ?_
    refine go _ ?_
    refine ro_appV (fm := [(rb, rdB x (s.wWin z (.slice wa wl wcp) wo))]) rfl rfl rfl rfl z5 (by decide) rfl rfl hb2 ((by classical exact List.perm_iff_count.2 fun a => by first | (simp only [List.count_append, List.count_cons, List.count_nil]; omega) | (simp only [List.append_eq, List.count_append, List.count_cons, List.count_nil]; omega))) rfl (hv.cut g3).add (by omega) hex rfl ?_
    intro oa bcp sm hb3
    refine go _ ?_
    refine J_ret ?_
    refine ends_retS [8] (post := (rb, rdB x (s.wWin z (.slice wa wl wcp) wo)) :: sm) (junk := []) ⟨sm, ?_, rfl⟩ rfl (.of_perm (by classical exact List.perm_iff_count.2 fun a => by first | (simp only [List.count_append, List.count_cons, List.count_nil]; omega) | (simp only [List.append_eq, List.count_append, List.count_cons, List.count_nil]; omega)))
    have e : bl + (wl - F) + T = bl + (to - fr) := by omega
    rw [e] at hb3 ⊢
    have e2 : apD (apD Sx bl (wl - F) fun i => ph (F + i)) (bl + (wl - F)) T ph = apD Sx bl (to - fr) fun i => winF ph wo wl (fr + i) := by
      rw [show to - fr = (wl - F) + T by omega, ← apD_apD]
      rw [apD_congr (T := fun i => ph (F + i)) (T' := fun i => winF ph wo wl (fr + i)) (fun i hi => by unfold winF; rw [if_pos (by omega)]; congr 1; omega)]
      refine apD_congr fun i hi => ?_
      unfold winF; rw [if_neg (by omega)]; congr 1; omega
    rw [← e2]; exact hb3
  · refine go _ ?_
    refine ro_slV F T hv rfl rfl rfl rfl rfl rfl rfl (by omega) (by omega) rfl ?_
    refine go _ ?_
    refine ro_appV (fm := [(rb, rdB x (s.wWin z (.slice wa wl wcp) wo))]) rfl rfl rfl rfl z5 (by decide) rfl rfl hb ((by classical exact List.perm_iff_count.2 fun a => by first | (simp only [List.count_append, List.count_cons, List.count_nil]; omega) | (simp only [List.append_eq, List.count_append, List.count_cons, List.count_nil]; omega))) rfl ((hv.cut g3).sub g4 (Nat.le_refl _)).add (by omega) hex rfl ?_
    intro oa bcp sm hb2
    refine go _ ?_
    refine J_ret ?_
    refine ends_retS [8] (post := (rb, rdB x (s.wWin z (.slice wa wl wcp) wo)) :: sm) (junk := []) ⟨sm, ?_, rfl⟩ rfl (.of_perm (by classical exact List.perm_iff_count.2 fun a => by first | (simp only [List.count_append, List.count_cons, List.count_nil]; omega) | (simp only [List.append_eq, List.count_append, List.count_cons, List.count_nil]; omega)))
    have e : T - F = to - fr := by omega
    rw [e] at hb2 ⊢
    have e2 : apD Sx bl (to - fr) (fun i => ph (F + i)) = apD Sx bl (to - fr) fun i => winF ph wo wl (fr + i) := apD_congr fun i hi => by
      unfold winF
      rcases g5 with g5 | g5
      · by_cases h : wo + (fr + i) < wl
        · rw [if_pos h]; congr 1; omega
        · omega
      · rw [if_neg (by omega)]; congr 1; omega
    rw [← e2]; exact hb2
end Go.Proofs.YtogmacnlpclgkaaDoor

/-! COMPRESSED BLOCKS 24: a match is copied. -/
namespace Go.Proofs.YtogmacnlpclgkaaDoor
open Go Go.Eng Go.Pz
attribute [local irreducible] RO J Trip Quiet
set_option maxRecDepth 20000
variable {G : Mem} {d : Nat → Nat}

theorem BufN.view {oa : Option Addr} {n n' cp : Nat} {S : Nat → Nat} {sm M : Mem} (h : BufN (.slice oa n cp) n' S sm) (hs : ∀ p ∈ sm, p ∈ M) : View M oa n cp S := by
  rcases h with ⟨h1, h2, h3, h4⟩ | ⟨b, cap, B, h1, rfl, h3, h4, h5, h6, h7⟩
  · cases h1
    exact ⟨Nat.le_refl _, .inl ⟨rfl, rfl, rfl⟩⟩
  · cases h1
    exact ⟨h5, .inr ⟨b, 0, B, rfl, hs _ (by simp), fun _ => by omega, fun i hi => by rw [Nat.zero_add, h6 i (by omega)]; rfl⟩⟩
theorem wlen_q (bb rb : Nat) (RV : Blk) (bm : Mem) (x : Int) (s : RS) (wa : Option Addr) (wl wcp : Nat) (hwd : s.wd = .slice wa wl wcp) (hwl : wl ≤ 2 ^ 27) :
    Quiet Tryd.prog G 77 #[.pointer (some ⟨rb, 14, none⟩)] ((bb, RV) :: (rb, rdB x s) :: bm) (.int .u32 (wl : Nat)) := by
  refine Quiet_of Tryd.func77 rfl (by show 1 ≤ _; decide) (args := [.pointer (some ⟨rb, 14, none⟩)]) fun c h0 => ?_
  rw [← s.wWin_self] at hwd ⊢
  generalize s.wd = wv at hwd ⊢
  have hwd : wv = .slice wa wl wcp := hwd
  subst hwd
  refine go _ ?_
  refine J_ret ?_
  exact ends_ret [2] rfl (post := []) (junk := []) (.refl _) rfl

/-- What a match leaves. -/
def MatP (S : Sent G) (rb bb : Nat) (x : Int) (s : RS) (RV : Blk) (oa : Option Addr) (bl bcp : Nat) (Sx : Nat → Nat) (bm : Mem) (L : Nat → Nat) (wl o ml : Nat) (v : Value) (m : Mem) : Prop :=
  if o = 0 ∨ bl < o ∧ wl < o - bl then ErrV S .z v ∧ m = (bb, RV) :: (rb, rdB x (s.wBuf (.slice oa bl bcp))) :: bm
  else v = .nilIface ∧ ∃ oa' bcp' bm', BufN (.slice oa' (bl + ml) bcp') (bl + ml) (mcp Sx bl L wl o ml) bm' ∧ m = (bb, RV) :: (rb, rdB x (s.wBuf (.slice oa' (bl + ml) bcp'))) :: bm'
structure MS where
  j : Nat
  oa : Option Addr
  cp : Nat
  bm : Mem

set_option maxHeartbeats 4000000 in
theorem match_t (S : Sent G) (rb bb : Nat) (x : Int) (s : RS) (da : Option Addr) (n cp off start bits cnt : Nat) (hoff : off < 2 ^ 32) (wa : Option Addr) (wl wcp : Nat) (ph : Nat → Nat) (hwd : s.wd = .slice wa wl wcp) (hv : View G wa wl wcp ph) (hwo : s.wo ≤ wl) (hwl : wl ≤ 2 ^ 27) (oa : Option Addr) (bl bcp : Nat) (Sx : Nat → Nat) (bm : Mem) (hb : BufN (.slice oa bl bcp) bl Sx bm) (hbl : bl ≤ 2 ^ 28) (o ml : Nat) (ho : o < 2 ^ 32) (hml : ml ≤ 2 ^ 28) :
    Trip Tryd.prog G 69 #[.pointer (some ⟨rb, 0, none⟩), .pointer (some ⟨bb, 0, none⟩), .int .u32 (o : Nat), .int .u32 (ml : Nat)] ((bb, rvB rb da n cp off start bits cnt) :: (rb, rdB x (s.wBuf (.slice oa bl bcp))) :: bm) (MatP S rb bb x s (rvB rb da n cp off start bits cnt) oa bl bcp Sx bm (winF ph s.wo wl) wl o ml) := by
  refine Trip_of Tryd.func69 rfl (by show 4 ≤ _; decide) (args := [.pointer (some ⟨rb, 0, none⟩), .pointer (some ⟨bb, 0, none⟩), .int .u32 (o : Nat), .int .u32 (ml : Nat)]) fun c h0 hex => ?_
  obtain ⟨RV, hRV⟩ : ∃ RV, RV = rvB rb da n cp off start bits cnt := ⟨_, rfl⟩
  rw [← hRV]
  have hbad : ∀ er, (o = 0 ∨ bl < o ∧ wl < o - bl) → ErrV S .z er → MatP S rb bb x s RV oa bl bcp Sx bm (winF ph s.wo wl) wl o ml er ((bb, RV) :: (rb, rdB x (s.wBuf (.slice oa bl bcp))) :: bm) := fun er h he => by
    unfold MatP; rw [if_pos h]; exact ⟨he, rfl⟩
  refine go _ ?_
  refine J_condP rfl (fun h => ?_) (fun ho0 => ?_)
  · rw [hRV] at hbad ⊢
    refine go _ ?_
    refine ro_callT (rvErr_t S bb rb x (s.wBuf (.slice oa bl bcp)) da n cp off start bits cnt hoff _) ?_ (fm := bm) (hs := .refl _)
    rintro v m ⟨⟨b', rfl⟩, rfl⟩
    refine go _ ?_
    refine J_ret ?_
    exact ends_retS [8] (post := (bb, rvB rb da n cp off start bits cnt) :: (rb, rdB x (s.wBuf (.slice oa bl bcp))) :: bm) (junk := []) (hbad _ (.inl (by omega)) ⟨b', rfl⟩) rfl (.of_perm (by classical exact List.perm_iff_count.2 fun a => by first | (simp only [List.count_append, List.count_cons, List.count_nil]; omega) | (simp only [List.append_eq, List.count_append, List.count_cons, List.count_nil]; omega)))
  refine go _ ?_
  refine J_joinE (σ := MS) [0] (fun t => [(3, .int .u32 ((ml - t.j : Nat) : Int)), (9, .int .u32 ((bl - o : Nat) : Int))]) (fun t => (bb, RV) :: (rb, rdB x (s.wBuf (.slice t.oa (bl + t.j) t.cp))) :: t.bm) (fun t => ¬ (o = 0 ∨ bl < o ∧ wl < o - bl) ∧ t.j ≤ ml ∧ BufN (.slice t.oa (bl + t.j) t.cp) (bl + t.j) (mcp Sx bl (winF ph s.wo wl) wl o t.j) t.bm ∧ (t.j < ml → ∃ q, 0 < q ∧ bl + t.j = bl - o + q * o)) ?_ ?_
  · refine J_condP rfl (fun hlt => ?_) (fun hge => ?_)
    · refine go _ ?_
      refine ro_callQT (wlen_q bb rb RV bm x (s.wBuf (.slice oa bl bcp)) wa wl wcp hwd hwl) ?_
      refine go _ ?_
      refine J_condP rfl (fun hbig => ?_) (fun hfit => ?_)
      · rw [hRV] at hbad ⊢
        refine go _ ?_
        refine ro_callT (rvErr_t S bb rb x (s.wBuf (.slice oa bl bcp)) da n cp off start bits cnt hoff _) ?_ (fm := bm) (hs := .of_perm (by classical exact List.perm_iff_count.2 fun a => by first | (simp only [List.count_append, List.count_cons, List.count_nil]; omega) | (simp only [List.append_eq, List.count_append, List.count_cons, List.count_nil]; omega)))
        rintro v m ⟨⟨b', rfl⟩, rfl⟩
        refine go _ ?_
        refine J_ret ?_
        exact ends_retS [8] (post := (bb, rvB rb da n cp off start bits cnt) :: (rb, rdB x (s.wBuf (.slice oa bl bcp))) :: bm) (junk := []) (hbad _ (.inr (by omega)) ⟨b', rfl⟩) rfl (.of_perm (by classical exact List.perm_iff_count.2 fun a => by first | (simp only [List.count_append, List.count_cons, List.count_nil]; omega) | (simp only [List.append_eq, List.count_append, List.count_cons, List.count_nil]; omega)))
      refine go _ ?_
      refine J_joinE (σ := Nat) [0, 3, 9, 13] (fun t => [(12, .int .u32 (t : Nat))]) (fun _ => (bb, RV) :: (rb, rdB x (s.wBuf (.slice oa bl bcp))) :: bm) (fun t => t = min ml (o - bl)) ?_ ?_
      · refine J_condP rfl (fun h => ?_) (fun h => ?_)
        · refine go _ ?_
          exact ⟨ml, by omega, joined (.refl _)⟩
        · refine go _ ?_
          exact ⟨o - bl, by omega, joined (.refl _)⟩
      rintro k f hk
      refine go _ ?_
      refine ro_callTF (winApp_t rb x (s.wBuf (.slice oa bl bcp)) wa wl wcp ph hwd hv hwo hwl (.slice oa bl bcp) bl Sx bm hb (by omega) (wl - (o - bl)) (wl - (o - bl) + k) (by omega) (by omega)) ?_ (fm := [(bb, RV)]) (hs := .of_perm (by classical exact List.perm_iff_count.2 fun a => by first | (simp only [List.count_append, List.count_cons, List.count_nil]; omega) | (simp only [List.append_eq, List.count_append, List.count_cons, List.count_nil]; omega)))
      rintro v m ⟨bm', hb', rfl⟩
      have e : wl - (o - bl) + k - (wl - (o - bl)) = k := by omega
      rw [e] at hb'
      obtain ⟨oa', bcp', rfl⟩ := BufM.form hb'
      have e3 : apD Sx bl k (fun i => winF ph s.wo wl (wl - (o - bl) + i)) = mcp Sx bl (winF ph s.wo wl) wl o k := by
        rw [mcp_win (by omega)]
        exact apD_congr fun i hi => congrArg _ (by omega)
      have hb' : BufN (.slice oa' (bl + k) bcp') (bl + k) (apD Sx bl k (fun i => winF ph s.wo wl (wl - (o - bl) + i))) bm' := hb'
      rw [e3] at hb'
      refine go _ ?_
      rw [show bl - o = 0 by omega]
      exact ⟨⟨k, oa', bcp', bm'⟩, ⟨by omega, by dsimp only; omega, hb', fun h => ⟨1, Nat.one_pos, by dsimp only at h ⊢; omega⟩⟩, joined (.cons rfl (.cons (blk_tab rfl rfl rfl rfl) (.refl _)))⟩
    · refine go _ ?_
      exact ⟨⟨0, oa, bcp, bm⟩, ⟨by omega, Nat.zero_le _, hb, fun _ => ⟨1, Nat.one_pos, by dsimp only; omega⟩⟩, joined (.refl _)⟩
  rintro ⟨j, oa1, bcp1, bm1⟩ f ⟨g1, g2, g3, g4⟩
  dsimp only at g2 g3 g4 ⊢
  refine go _ ?_
  refine J_loopL (σ := MS) [0] (fun t => [(3, .int .u32 ((ml - t.j : Nat) : Int)), (9, .int .u32 ((bl - o : Nat) : Int))]) (fun t => (bb, RV) :: (rb, rdB x (s.wBuf (.slice t.oa (bl + t.j) t.cp))) :: t.bm) (fun t => t.j ≤ ml ∧ BufN (.slice t.oa (bl + t.j) t.cp) (bl + t.j) (mcp Sx bl (winF ph s.wo wl) wl o t.j) t.bm ∧ (t.j < ml → ∃ q, 0 < q ∧ bl + t.j = bl - o + q * o)) (fun t => ml - t.j) ⟨j, oa1, bcp1, bm1⟩ (.refl _) ⟨g2, g3, g4⟩ ?_
  clear g2 g3 g4
  rintro ⟨j, oa1, bcp1, bm1⟩ f ⟨g2, g3, g4⟩
  dsimp only at g2 g3 g4 ⊢
  refine go _ ?_
  refine J_condP rfl (fun hmore => ?_) (fun hdone => ?_)
  · refine go _ ?_
    obtain ⟨q, g5, g6⟩ := g4 (by omega)
    clear g4
    have hqo : bl + j - (bl - o) = q * o := by omega
    have hoq : o ≤ q * o := Nat.le_mul_of_pos_left o g5
    refine J_joinE (σ := Nat) [0, 3, 9] (fun t => [(14, .int .u32 (t : Nat))]) (fun _ => (bb, RV) :: (rb, rdB x (s.wBuf (.slice oa1 (bl + j) bcp1))) :: bm1) (fun t => t = min (ml - j) (q * o)) ?_ ?_
    · refine J_condP rfl (fun h => ?_) (fun h => ?_)
      · refine go _ ?_
        exact ⟨ml - j, by omega, joined (.refl _)⟩
      · refine go _ ?_
        exact ⟨bl + j - (bl - o), by omega, joined (.refl _)⟩
    rintro k f hk
    have hbv : View bm1 oa1 (bl + j) bcp1 (mcp Sx bl (winF ph s.wo wl) wl o j) := BufN.view g3 fun _ h => h
    refine go _ ?_
    refine ro_slV (bl - o) (bl - o + k) hbv rfl rfl rfl rfl rfl rfl rfl (by omega) (by have := hbv.le; omega) rfl ?_
    refine go _ ?_
    refine ro_appV (fm := [(bb, RV), (rb, rdB x (s.wBuf (.slice oa1 (bl + j) bcp1)))]) rfl rfl rfl rfl z5 (by decide) rfl rfl g3 ((by classical exact List.perm_iff_count.2 fun a => by first | (simp only [List.count_append, List.count_cons, List.count_nil]; omega) | (simp only [List.append_eq, List.count_append, List.count_cons, List.count_nil]; omega))) rfl (View.mono (hbv.sub (show bl - o ≤ bl - o + k by omega) (show bl - o + k ≤ bl + j by omega)) fun _ hp => List.mem_append.2 (.inl (.tail _ (.tail _ hp)))) (by omega) hex rfl ?_
    intro oa' bcp' sm hb2
    have e : bl - o + k - (bl - o) = k := by omega
    rw [e] at hb2 ⊢
    have hb2 : BufN (.slice oa' (bl + j + k) bcp') (bl + j + k) (apD (mcp Sx bl (winF ph s.wo wl) wl o j) (bl + j) k fun i => mcp Sx bl (winF ph s.wo wl) wl o j (bl - o + i)) sm := hb2
    rw [← mcp_rep (fr := bl - o) (j := j) (k := k) (q := q) (show 0 < o by omega) rfl (show bl ≤ bl - o + o by omega) g5 g6 (show k ≤ q * o by omega), Nat.add_assoc] at hb2
    refine go _ ?_
    refine ⟨⟨j + k, oa', bcp', sm⟩, by dsimp only; omega, ⟨by dsimp only; omega, hb2, fun h => ⟨q + q, by omega, by dsimp only at h ⊢; rw [Nat.add_mul]; omega⟩⟩, joined (hs := ⟨by show Value.int .u32 ((ml - j - k : Nat) : Int) = .int .u32 ((ml - (j + k) : Nat) : Int); rw [Nat.sub_sub], rfl, rfl, trivial⟩) (.cons rfl (.cons (B' := rdB x (s.wBuf (.slice oa' (bl + (j + k)) bcp'))) (by rw [← Nat.add_assoc]; exact blk_tab rfl rfl rfl rfl) (.refl _)))⟩
  · obtain rfl : j = ml := by omega
    refine go _ ?_
    refine J_ret ?_
    refine ends_retS [8] (post := (bb, RV) :: (rb, rdB x (s.wBuf (.slice oa1 (bl + j) bcp1))) :: bm1) (junk := []) ?_ rfl (.of_perm (by classical exact List.perm_iff_count.2 fun a => by first | (simp only [List.count_append, List.count_cons, List.count_nil]; omega) | (simp only [List.append_eq, List.count_append, List.count_cons, List.count_nil]; omega)))
    unfold MatP; rw [if_neg g1]
    exact ⟨rfl, _, _, _, g3, rfl⟩
end Go.Proofs.YtogmacnlpclgkaaDoor
