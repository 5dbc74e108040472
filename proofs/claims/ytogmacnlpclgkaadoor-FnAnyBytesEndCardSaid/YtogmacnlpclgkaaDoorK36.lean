/-
  TEXTS MERGED: C25.
-/
import Derived.Test.YtogmacnlpclgkaaDoorK35
/-! COMPRESSED BLOCKS 25: the sequences. -/
namespace Go.Proofs.YtogmacnlpclgkaaDoor
open Go Go.Eng Go.Pz
attribute [local irreducible] RO J Trip Quiet
set_option maxRecDepth 20000
variable {G : Mem} {d : Nat → Nat}

/-- Tables that a decoder can go through. -/
structure SOk (kind : Nat) (T : STab) : Prop where
  log : T.log ≤ 9
  more : ∀ p, p < 2 ^ T.log → (T.cell p).more ≤ 31 ∧ (T.cell p).base + 2 ^ (T.cell p).more ≤ 4294967296
  next : ∀ p, p < 2 ^ T.log → (T.cell p).bits ≤ 9 ∧ (T.cell p).next + 2 ^ (T.cell p).bits ≤ 2 ^ T.log
  off : ∀ p, p < 2 ^ T.log → kind = 1 → (T.cell p).more ≤ 1 → (T.cell p).base ≤ 2
  mat : ∀ p, p < 2 ^ T.log → kind = 2 → (T.cell p).base + 2 ^ (T.cell p).more ≤ 262144
/-- A table that lies still. -/
def TabV (G : Mem) (st : Value) (sb : Nat) (T : STab) : Prop := sb = T.log ∧ ∃ b c B, st = .slice (some ⟨b, 0, none⟩) (2 ^ T.log) c ∧ (b, B) ∈ G ∧ SqG B.g (2 ^ T.log) T.cell ∧ 2 ^ T.log * 4 ≤ B.n
theorem has_of_mem {m : Mem} {b : Nat} {B : Blk} (h : (b, B) ∈ m) : Has m b B := by
  induction m with
  | nil => cases h
  | cons p m ih => cases h with
    | head => exact .here
    | tail _ h => exact .there (ih h)
section
variable {P : Program} [ty : TyC P] {qs : List FuncId} {c : World} {n : Nat} {h0 : Base} {ops : Array Oper} {Q : Fr → Mem → Prop} {rest : List Oper} {f : Fr} {m : Mem}
variable {dd : Option Tmp} {T T' tt : TypeId} {pos : String} {aft : Array Edge}
/-- A field of a cell. -/
theorem ro_cell {x : Operand} {b o p j L : Nat} {B : Blk} {cl : Nat → SCell} {v : Value} (hB : Has G b B) (hg : SqG B.g L cl) (hn : L * 4 ≤ B.n) (hx : ev f x = .pointer (some ⟨b, o, none⟩)) (hT : oneTk (TyC.tk P T) = true) (hp : p < L) (hj : j < 4) (ho : o = p * 4 + j) (hv : listG (cellL (cl p)) j = v) (hd : dstOk n dd = true)
    (h : RO P G qs c n h0 ops Q rest (updo f dd v) m) : RO P G qs c n h0 ops Q (⟨dd, .load T x, tt, pos, aft, none⟩ :: rest) f m := by
  refine ro_loadGI hx hT hB (show o < B.n by omega) ?_ hd h
  rw [ho, hg p hp j hj, hv]
omit ty in
theorem ro_sub1U {x y : Operand} {r : Nat} (hx : ev f x = .int .u32 (r : Nat)) (hy : ev f y = .int .u32 1) (hr : r < 4294967296) (hd : dstOk n dd = true)
    (h : RO P G qs c n h0 ops Q rest (updo f dd (.int .u32 (((r + 4294967295) % 4294967296 : Nat) : Int))) m) : RO P G qs c n h0 ops Q (⟨dd, .binOp .sub T x y T', tt, pos, aft, none⟩ :: rest) f m := by
  refine ro_bin hx hy rfl hd ?_
  cases r with
  | zero => exact h
  | succ r =>
    rw [show ((r + 1 : Nat) : Int) - 1 = ((r : Nat) : Int) by omega, wrap_u rfl, show r % 2 ^ IntKind.u32.bits = (r + 1 + 4294967295) % 4294967296 by show r % 4294967296 = _; omega]
    exact h
end
abbrev RS.wXT (s : RS) (b0 c0 b1 c1 b2 c2 l0 l1 l2 k0 k1 k2 : Nat) (oa : Option Addr) (bl cp r1 r2 r3 : Nat) : RS := { s with buf := .slice oa bl cp, r1 := r1, r2 := r2, r3 := r3, st0 := .slice (some ⟨b0, 0, none⟩) l0 c0, st1 := .slice (some ⟨b1, 0, none⟩) l1 c1, st2 := .slice (some ⟨b2, 0, none⟩) l2 c2, sb0 := k0, sb1 := k1, sb2 := k2 }
abbrev RS.wX (s : RS) (oa : Option Addr) (bl cp r1 r2 r3 : Nat) : RS := { s with buf := .slice oa bl cp, r1 := r1, r2 := r2, r3 := r3 }
/-- What the sequences leave. -/
def SqX (S : Sent G) (rb : Nat) (x : Int) (s : RS) (R : XS × Bool) (v : Value) (m : Mem) : Prop :=
  ∃ oa cp bm, BufN (.slice oa R.1.bl cp) R.1.bl R.1.S bm ∧ m = (rb, rdB x (s.wX oa R.1.bl cp R.1.r1 R.1.r2 R.1.r3)) :: bm ∧ if R.2 then v = .nilIface else ErrV S .z v
structure LS where
  i : Nat
  x : XS
  B : Nat
  oa : Option Addr
  cp : Nat
  bm : Mem
  la : Option Addr
  lc : Nat

set_option maxHeartbeats 8000000 in
theorem exec_t (S : Sent G) (rb : Nat) (x : Int) (s : RS) (da : Option Addr) (n cp : Nat) (hd : ∀ i, d i < 256) (hv : View G da n cp d) (hn : n ≤ 2 ^ 20) (hn1 : 0 < n) (off : Nat) (hoff : off ≤ n)
    (T0 T1 T2 : STab) (e : CE) (he0 : e.t0 = some T0) (he1 : e.t1 = some T1) (he2 : e.t2 = some T2) (hr1 : s.r1 = e.r1) (hr2 : s.r2 = e.r2) (hr3 : s.r3 = e.r3) (hrr : e.r1 < 4294967296 ∧ e.r2 < 4294967296 ∧ e.r3 < 4294967296) (o0 : SOk 0 T0) (o1 : SOk 1 T1) (o2 : SOk 2 T2) (v0 : TabV G s.st0 s.sb0 T0) (v1 : TabV G s.st1 s.sb1 T1) (v2 : TabV G s.st2 s.sb2 T2)
    (wa : Option Addr) (wl wcp : Nat) (ph : Nat → Nat) (hwd : s.wd = .slice wa wl wcp) (hw : View G wa wl wcp ph) (hwo : s.wo ≤ wl) (hwl : wl ≤ 2 ^ 27)
    (la : Option Addr) (ll lc : Nat) (LT : Nat → Nat) (hl : View G la ll lc LT) (hll : ll ≤ 2 ^ 20) (cnt : Nat) (hcnt : cnt ≤ 2 ^ 20)
    (oa : Option Addr) (bcp : Nat) (Sx : Nat → Nat) (bm : Mem) (hbuf : s.buf = .slice oa 0 bcp) (hb : BufN (.slice oa 0 bcp) 0 Sx bm) :
    Trip Tryd.prog G 60 #[.pointer (some ⟨rb, 0, none⟩), .slice da n cp, .int .i64 (off : Nat), .slice la ll lc, .int .i64 (cnt : Nat)] ((rb, rdB x s) :: bm) (SqX S rb x s (sqExec e d n off cnt (winF ph s.wo wl) wl LT ll Sx)) := by
  refine Trip_of Tryd.func60 rfl (by show 5 ≤ _; decide) (args := [.pointer (some ⟨rb, 0, none⟩), .slice da n cp, .int .i64 (off : Nat), .slice la ll lc, .int .i64 (cnt : Nat)]) fun c h0 hex => ?_
  obtain ⟨e0, b0, c0, B0, e1, g0, q0, k0⟩ := v0
  obtain ⟨e2, b1, c1, B1, e3, g1, q1, k1⟩ := v1
  obtain ⟨e4, b2, c2, B2, e5, g2, q2, k2⟩ := v2
  have hl0 := o0.log
  have hl1 := o1.log
  have hl2 := o2.log
  have hwx : ∀ oa bl cp r1 r2 r3, s.wX oa bl cp r1 r2 r3 = s.wXT b0 c0 b1 c1 b2 c2 (2 ^ T0.log) (2 ^ T1.log) (2 ^ T2.log) T0.log T1.log T2.log oa bl cp r1 r2 r3 := fun oa bl cp r1 r2 r3 => by
    unfold RS.wX RS.wXT; rw [← e1, ← e3, ← e5, ← e0, ← e2, ← e4]
  have hs : s = s.wX oa 0 bcp e.r1 e.r2 e.r3 := by
    unfold RS.wX; rw [← hbuf, ← hr1, ← hr2, ← hr3]
  obtain ⟨l0, hL0⟩ : ∃ l, l = 2 ^ T0.log := ⟨_, rfl⟩
  obtain ⟨l1, hL1⟩ : ∃ l, l = 2 ^ T1.log := ⟨_, rfl⟩
  obtain ⟨l2, hL2⟩ : ∃ l, l = 2 ^ T2.log := ⟨_, rfl⟩
  rw [← hL0, ← hL1, ← hL2] at hwx
  rw [← hL0] at q0 k0
  rw [← hL1] at q1 k1
  rw [← hL2] at q2 k2
  have hm0 := o0.more
  have hm1 := o1.more
  have hm2 := o2.more
  have hx0 := o0.next
  have hx1 := o1.next
  have hx2 := o2.next
  rw [← hL0] at hm0 hx0
  rw [← hL1] at hm1 hx1
  rw [← hL2] at hm2 hx2
  have hP0 : l0 ≤ 512 := by rw [hL0]; exact Nat.pow_le_pow_right (n := 2) (j := 9) (by omega) hl0
  have hP1 : l1 ≤ 512 := by rw [hL1]; exact Nat.pow_le_pow_right (n := 2) (j := 9) (by omega) hl1
  have hP2 : l2 ≤ 512 := by rw [hL2]; exact Nat.pow_le_pow_right (n := 2) (j := 9) (by omega) hl2
  have hmt : ∀ p, p < l2 → (T2.cell p).base + 2 ^ (T2.cell p).more ≤ 262144 := fun p hp => o2.mat p (by rw [← hL2]; exact hp) rfl
  have hof : ∀ p, p < l1 → (T1.cell p).more ≤ 1 → (T1.cell p).base ≤ 2 := fun p hp => o1.off p (by rw [← hL1]; exact hp) rfl
  have g0 := has_of_mem g0
  have g1 := has_of_mem g1
  have g2 := has_of_mem g2
  obtain ⟨L, hL⟩ : ∃ L, L = winF ph s.wo wl := ⟨_, rfl⟩
  rw [← hL]
  obtain ⟨R, hR⟩ : ∃ R, R = sqExec e d n off cnt L wl LT ll Sx := ⟨_, rfl⟩
  rw [← hR]
  have hbad : ∀ (y : XS) oa cp bm v, R = (y, false) → BufN (.slice oa y.bl cp) y.bl y.S bm → ErrV S .z v → SqX S rb x s R v ((rb, rdB x (s.wXT b0 c0 b1 c1 b2 c2 l0 l1 l2 T0.log T1.log T2.log oa y.bl cp y.r1 y.r2 y.r3)) :: bm) := fun y oa cp bm v h0 h1 h2 => by
    rw [h0]; exact ⟨oa, cp, bm, h1, by rw [hwx], h2⟩
  have hgood : ∀ (y : XS) oa cp bm, R = (y, true) → BufN (.slice oa y.bl cp) y.bl y.S bm → SqX S rb x s R .nilIface ((rb, rdB x (s.wXT b0 c0 b1 c1 b2 c2 l0 l1 l2 T0.log T1.log T2.log oa y.bl cp y.r1 y.r2 y.r3)) :: bm) := fun y oa cp bm h0 h1 => by
    rw [h0]; exact ⟨oa, cp, bm, h1, by rw [hwx], rfl⟩
  have hw2 : ∀ oa bl cp r1 r2 r3, (s.wXT b0 c0 b1 c1 b2 c2 l0 l1 l2 T0.log T1.log T2.log oa bl cp r1 r2 r3).wo = s.wo := fun _ _ _ _ _ _ => rfl
  obtain ⟨a, ha⟩ : ∃ a, a = rvA d (n - 1) := ⟨_, rfl⟩
  have hE : R = if d (n - 1) = 0 then (⟨e.r1, e.r2, e.r3, Sx, 0, 0, a - T0.log - T1.log - T2.log, rvV d a T0.log, rvV d (a - T0.log) T1.log, rvV d (a - T0.log - T1.log) T2.log⟩, false)
      else if ¬ rvC off a T0.log then (⟨e.r1, e.r2, e.r3, Sx, 0, 0, a - T0.log - T1.log - T2.log, rvV d a T0.log, rvV d (a - T0.log) T1.log, rvV d (a - T0.log - T1.log) T2.log⟩, false)
      else if ¬ rvC off (a - T0.log) T1.log then (⟨e.r1, e.r2, e.r3, Sx, 0, 0, a - T0.log - T1.log - T2.log, rvV d a T0.log, rvV d (a - T0.log) T1.log, rvV d (a - T0.log - T1.log) T2.log⟩, false)
      else if ¬ rvC off (a - T0.log - T1.log) T2.log then (⟨e.r1, e.r2, e.r3, Sx, 0, 0, a - T0.log - T1.log - T2.log, rvV d a T0.log, rvV d (a - T0.log) T1.log, rvV d (a - T0.log - T1.log) T2.log⟩, false)
      else if (sqLoop T0 T1 T2 d off L wl LT ll cnt ⟨e.r1, e.r2, e.r3, Sx, 0, 0, a - T0.log - T1.log - T2.log, rvV d a T0.log, rvV d (a - T0.log) T1.log, rvV d (a - T0.log - T1.log) T2.log⟩).2 = false then sqLoop T0 T1 T2 d off L wl LT ll cnt ⟨e.r1, e.r2, e.r3, Sx, 0, 0, a - T0.log - T1.log - T2.log, rvV d a T0.log, rvV d (a - T0.log) T1.log, rvV d (a - T0.log - T1.log) T2.log⟩
      else ({ (sqLoop T0 T1 T2 d off L wl LT ll cnt ⟨e.r1, e.r2, e.r3, Sx, 0, 0, a - T0.log - T1.log - T2.log, rvV d a T0.log, rvV d (a - T0.log) T1.log, rvV d (a - T0.log - T1.log) T2.log⟩).1 with S := apD (sqLoop T0 T1 T2 d off L wl LT ll cnt ⟨e.r1, e.r2, e.r3, Sx, 0, 0, a - T0.log - T1.log - T2.log, rvV d a T0.log, rvV d (a - T0.log) T1.log, rvV d (a - T0.log - T1.log) T2.log⟩).1.S (sqLoop T0 T1 T2 d off L wl LT ll cnt ⟨e.r1, e.r2, e.r3, Sx, 0, 0, a - T0.log - T1.log - T2.log, rvV d a T0.log, rvV d (a - T0.log) T1.log, rvV d (a - T0.log - T1.log) T2.log⟩).1.bl (ll - (sqLoop T0 T1 T2 d off L wl LT ll cnt ⟨e.r1, e.r2, e.r3, Sx, 0, 0, a - T0.log - T1.log - T2.log, rvV d a T0.log, rvV d (a - T0.log) T1.log, rvV d (a - T0.log - T1.log) T2.log⟩).1.lo) fun i => LT ((sqLoop T0 T1 T2 d off L wl LT ll cnt ⟨e.r1, e.r2, e.r3, Sx, 0, 0, a - T0.log - T1.log - T2.log, rvV d a T0.log, rvV d (a - T0.log) T1.log, rvV d (a - T0.log - T1.log) T2.log⟩).1.lo + i), bl := (sqLoop T0 T1 T2 d off L wl LT ll cnt ⟨e.r1, e.r2, e.r3, Sx, 0, 0, a - T0.log - T1.log - T2.log, rvV d a T0.log, rvV d (a - T0.log) T1.log, rvV d (a - T0.log - T1.log) T2.log⟩).1.bl + (ll - (sqLoop T0 T1 T2 d off L wl LT ll cnt ⟨e.r1, e.r2, e.r3, Sx, 0, 0, a - T0.log - T1.log - T2.log, rvV d a T0.log, rvV d (a - T0.log) T1.log, rvV d (a - T0.log - T1.log) T2.log⟩).1.lo) }, decide ((sqLoop T0 T1 T2 d off L wl LT ll cnt ⟨e.r1, e.r2, e.r3, Sx, 0, 0, a - T0.log - T1.log - T2.log, rvV d a T0.log, rvV d (a - T0.log) T1.log, rvV d (a - T0.log - T1.log) T2.log⟩).1.a % 8 = 0)) := by
    rw [hR, ha]; unfold sqExec; rw [he0, he1, he2]; rfl
  obtain ⟨X0, hX0⟩ : ∃ X : XS, X = ⟨e.r1, e.r2, e.r3, Sx, 0, 0, a - T0.log - T1.log - T2.log, rvV d a T0.log, rvV d (a - T0.log) T1.log, rvV d (a - T0.log - T1.log) T2.log⟩ := ⟨_, rfl⟩
  rw [← hX0] at hE
  have hb0 : BufN (.slice oa X0.bl bcp) X0.bl X0.S bm := by rw [hX0]; exact hb
  have hbad0 : ∀ v, R = (X0, false) → ErrV S .z v → SqX S rb x s R v ((rb, rdB x (s.wXT b0 c0 b1 c1 b2 c2 l0 l1 l2 T0.log T1.log T2.log oa 0 bcp e.r1 e.r2 e.r3)) :: bm) := fun v h1 h2 => by
    have := hbad X0 oa bcp bm v h1 hb0 h2
    rw [hX0] at this
    exact this
  rw [show rdB x s = rdB x (s.wXT b0 c0 b1 c1 b2 c2 l0 l1 l2 T0.log T1.log T2.log oa 0 bcp e.r1 e.r2 e.r3) from congrArg _ (hs.trans (hwx _ _ _ _ _ _))]
  refine go _ ?_
  refine ro_callT (mkrv_t S rb x (s.wXT b0 c0 b1 c1 b2 c2 l0 l1 l2 T0.log T1.log T2.log oa 0 bcp e.r1 e.r2 e.r3) da n cp hd hv hn (n - 1) off (by omega) (by omega)) ?_ (fm := bm) (hs := .of_perm (by classical exact List.perm_iff_count.2 fun a => by first | (simp only [List.count_append, List.count_cons, List.count_nil]; omega) | (simp only [List.append_eq, List.count_append, List.count_cons, List.count_nil]; omega)))
  rintro v m ⟨rfl, hv2⟩
  by_cases hz : d (n - 1) = 0
  · rw [if_pos hz] at hv2 hE
    obtain ⟨er, rfl, ⟨b', rfl⟩⟩ := hv2
    refine go _ ?_
    refine ro_alloc z137 rfl hex fun vb hvb => ?_
    refine go _ ?_
    refine ro_storeAgg (s := 5) (vs := [.pointer none, .slice none 0 0, .int .u32 0, .int .u32 0, .int .u32 0, .int .u32 0]) rfl rfl rfl rfl (fun v hv => by simp only [List.mem_cons, List.not_mem_nil, or_false] at hv; rcases hv with rfl | rfl | rfl | rfl | rfl | rfl <;> rfl) .here (Nat.le_refl 6) rfl hex ?_
    refine go _ ?_
    refine J_ret ?_
    exact ends_retS [10] (post := (rb, rdB x (s.wXT b0 c0 b1 c1 b2 c2 l0 l1 l2 T0.log T1.log T2.log oa 0 bcp e.r1 e.r2 e.r3)) :: bm) (junk := [(vb, _)]) (hbad0 _ hE ⟨b', rfl⟩) rfl (.of_perm (List.perm_append_comm (l₁ := [_]) (l₂ := _ :: bm)))
  rw [if_neg hz] at hv2 hE
  subst hv2
  obtain ⟨i1, i2, i3⟩ := RvOk.init (d := d) hd hz
  have ha' : a = 8 * (n - 1) + Nat.log2 (d (n - 1)) := ha
  rw [← ha'] at i1 i2 i3
  refine go _ ?_
  refine ro_alloc z137 rfl hex fun vb hvb => ?_
  refine go _ ?_
  refine ro_storeAgg (s := 5) (vs := [.pointer (some ⟨rb, 0, none⟩), .slice da n cp, .int .u32 ((n - 1 : Nat) : Int), .int .u32 (off : Nat), .int .u32 (d (n - 1) : Nat), .int .u32 (Nat.log2 (d (n - 1)) : Nat)]) rfl rfl rfl rfl (fun v hv => by simp only [List.mem_cons, List.not_mem_nil, or_false] at hv; rcases hv with rfl | rfl | rfl | rfl | rfl | rfl <;> rfl) .here (Nat.le_refl 6) rfl hex ?_
  refine RO_eqv (m' := (vb, rvS rb da n cp off a (d (n - 1))) :: (rb, rdB x (s.wXT b0 c0 b1 c1 b2 c2 l0 l1 l2 T0.log T1.log T2.log oa 0 bcp e.r1 e.r2 e.r3)) :: bm) (.cons (by unfold rvS; rw [i2, i3]; exact blk_tab rfl rfl rfl rfl) (.refl _)) (fun _ h => J_eqv (.cons (by unfold rvS; rw [i2, i3]; exact blk_tab rfl rfl rfl rfl) (.refl _)) h) ?_
  refine go _ ?_
  refine ro_callT (rval_t S vb rb x (s.wXT b0 c0 b1 c1 b2 c2 l0 l1 l2 T0.log T1.log T2.log oa 0 bcp e.r1 e.r2 e.r3) da n cp hd hv hn a (d (n - 1)) off T0.log i1 (by omega) (by omega) (by omega)) ?_ (fm := bm) (hs := .refl _)
  rintro v m (⟨hC0, rfl, hle0, Ba, hRa, hna, rfl⟩ | ⟨hC0, ⟨er, rfl, ⟨b', rfl⟩⟩, o', B', k', ho', rfl⟩)
  rotate_left
  · rw [if_pos hC0] at hE
    refine go _ ?_
    refine J_ret ?_
    exact ends_retS [10] (post := (rb, rdB x (s.wXT b0 c0 b1 c1 b2 c2 l0 l1 l2 T0.log T1.log T2.log oa 0 bcp e.r1 e.r2 e.r3)) :: bm) (junk := [(vb, _)]) (hbad0 _ hE ⟨b', rfl⟩) rfl (.of_perm (List.perm_append_comm (l₁ := [_]) (l₂ := _ :: bm)))
  rw [if_neg (not_not_intro hC0)] at hE
  refine go _ ?_
  refine ro_callT (rval_t S vb rb x (s.wXT b0 c0 b1 c1 b2 c2 l0 l1 l2 T0.log T1.log T2.log oa 0 bcp e.r1 e.r2 e.r3) da n cp hd hv hn (a - T0.log) Ba off T1.log hRa hna (by omega) (by omega)) ?_ (fm := bm) (hs := .refl _)
  rintro v m (⟨hC1, rfl, hle1, Bb, hRb, hnb, rfl⟩ | ⟨hC1, ⟨er, rfl, ⟨b', rfl⟩⟩, o', B', k', ho', rfl⟩)
  rotate_left
  · rw [if_pos hC1] at hE
    refine go _ ?_
    refine J_ret ?_
    exact ends_retS [10] (post := (rb, rdB x (s.wXT b0 c0 b1 c1 b2 c2 l0 l1 l2 T0.log T1.log T2.log oa 0 bcp e.r1 e.r2 e.r3)) :: bm) (junk := [(vb, _)]) (hbad0 _ hE ⟨b', rfl⟩) rfl (.of_perm (List.perm_append_comm (l₁ := [_]) (l₂ := _ :: bm)))
  rw [if_neg (not_not_intro hC1)] at hE
  refine go _ ?_
  refine ro_callT (rval_t S vb rb x (s.wXT b0 c0 b1 c1 b2 c2 l0 l1 l2 T0.log T1.log T2.log oa 0 bcp e.r1 e.r2 e.r3) da n cp hd hv hn (a - T0.log - T1.log) Bb off T2.log hRb hnb (by omega) (by omega)) ?_ (fm := bm) (hs := .refl _)
  rintro v m (⟨hC2, rfl, hle2, Bc, hRc, hnc, rfl⟩ | ⟨hC2, ⟨er, rfl, ⟨b', rfl⟩⟩, o', B', k', ho', rfl⟩)
  rotate_left
  · rw [if_pos hC2] at hE
    refine go _ ?_
    refine J_ret ?_
    exact ends_retS [10] (post := (rb, rdB x (s.wXT b0 c0 b1 c1 b2 c2 l0 l1 l2 T0.log T1.log T2.log oa 0 bcp e.r1 e.r2 e.r3)) :: bm) (junk := [(vb, _)]) (hbad0 _ hE ⟨b', rfl⟩) rfl (.of_perm (List.perm_append_comm (l₁ := [_]) (l₂ := _ :: bm)))
  rw [if_neg (not_not_intro hC2)] at hE
  have hs0 : X0.s0 < l0 := by rw [hX0, hL0]; exact rvV_lt _ _ _
  have hs1 : X0.s1 < l1 := by rw [hX0, hL1]; exact rvV_lt _ _ _
  have hs2 : X0.s2 < l2 := by rw [hX0, hL2]; exact rvV_lt _ _ _
  have hRc' : RvOk d X0.a (X0.a % 8) Bc := by rw [hX0]; exact hRc
  have hnc' : X0.a / 8 ≤ n := by rw [hX0]; exact hnc
  have hy0 : rvV d a T0.log = X0.s0 := by rw [hX0]
  have hy1 : rvV d (a - T0.log) T1.log = X0.s1 := by rw [hX0]
  have hy2 : rvV d (a - T0.log - T1.log) T2.log = X0.s2 := by rw [hX0]
  have hya : a - T0.log - T1.log - T2.log = X0.a := by rw [hX0]
  have hXX : X0 = ⟨X0.r1, X0.r2, X0.r3, Sx, 0, 0, X0.a, X0.s0, X0.s1, X0.s2⟩ := by rw [hX0]
  have hrr0 : X0.r1 = e.r1 ∧ X0.r2 = e.r2 ∧ X0.r3 = e.r3 := by rw [hX0]; exact ⟨rfl, rfl, rfl⟩
  rw [hy0, hy1, hy2, hya, ← hrr0.1, ← hrr0.2.1, ← hrr0.2.2]
  rw [← hrr0.1, ← hrr0.2.1, ← hrr0.2.2] at hrr
  clear hb0 hbad0 hy0 hy1 hy2 hya hrr0 i1 i2 i3 hRa hRb hRc hna hnb hnc hle0 hle1 hle2 hC0 hC1 hC2 hz ha' ha hs
  refine go _ ?_
  refine J_loopL (σ := LS) [0, 2, 4, 11] (fun t => [(3, .slice t.la (ll - t.x.lo) t.lc), (13, .int .u32 (t.x.s0 : Nat)), (14, .int .u32 (t.x.s1 : Nat)), (15, .int .u32 (t.x.s2 : Nat)), (16, .int .i64 (t.i : Nat))]) (fun t => (vb, rvS rb da n cp off t.x.a t.B) :: (rb, rdB x (s.wXT b0 c0 b1 c1 b2 c2 l0 l1 l2 T0.log T1.log T2.log t.oa t.x.bl t.cp t.x.r1 t.x.r2 t.x.r3)) :: t.bm) (fun t => t.i ≤ cnt ∧ sqLoop T0 T1 T2 d off L wl LT ll cnt X0 = sqLoop T0 T1 T2 d off L wl LT ll (cnt - t.i) t.x ∧ BufN (.slice t.oa t.x.bl t.cp) t.x.bl t.x.S t.bm ∧ RvOk d t.x.a (t.x.a % 8) t.B ∧ t.x.a / 8 ≤ n ∧ (t.x.s0 < l0 ∧ t.x.s1 < l1 ∧ t.x.s2 < l2) ∧ (t.x.r1 < 4294967296 ∧ t.x.r2 < 4294967296 ∧ t.x.r3 < 4294967296) ∧ t.x.lo ≤ ll ∧ View G t.la (ll - t.x.lo) t.lc (fun i => LT (t.x.lo + i)) ∧ t.x.bl ≤ 2 ^ 20) (fun t => cnt - t.i) ⟨0, ⟨X0.r1, X0.r2, X0.r3, Sx, 0, 0, X0.a, X0.s0, X0.s1, X0.s2⟩, Bc, oa, bcp, bm, la, lc⟩ (.refl _) ⟨Nat.zero_le _, by rw [← hXX]; rfl, hb, hRc', hnc', ⟨hs0, hs1, hs2⟩, hrr, Nat.zero_le _, hl.congr fun i _ => by rw [Nat.zero_add], Nat.zero_le _⟩ ?_
  clear hb hRc' hnc' hs0 hs1 hs2 hrr hXX
  rintro ⟨i, ⟨r1, r2, r3, Sy, bl, lo, a, s0, s1, s2⟩, B, oa, bcp, bm, la, lc⟩ f ⟨j1, j2, j3, j4, j5, ⟨j6, j7, j8⟩, ⟨j9, j10, j11⟩, j12, j13, j14⟩
  dsimp only at j1 j2 j3 j4 j5 j6 j7 j8 j9 j10 j11 j12 j13 j14 ⊢
  refine go _ ?_
  refine J_condP rfl (fun hlt => ?_) (fun hge => ?_)
  rotate_left
  · obtain rfl : i = cnt := by omega
    rw [Nat.sub_self] at j2
    rw [show sqLoop T0 T1 T2 d off L wl LT ll 0 _ = (_, true) from rfl] at j2
    rw [j2, if_neg (fun h => by cases h)] at hE
    dsimp only at hE
    refine go _ ?_
    refine ro_appV (fm := [(vb, rvS rb da n cp off a B), (rb, rdB x (s.wXT b0 c0 b1 c1 b2 c2 l0 l1 l2 T0.log T1.log T2.log oa bl bcp r1 r2 r3))]) rfl rfl rfl rfl z5 (by decide) rfl rfl j3 ((by classical exact List.perm_iff_count.2 fun a => by first | (simp only [List.count_append, List.count_cons, List.count_nil]; omega) | (simp only [List.append_eq, List.count_append, List.count_cons, List.count_nil]; omega))) rfl j13.add (by omega) hex rfl ?_
    intro oa' bcp' sm hb2
    refine go _ ?_
    refine J_eqv (m' := (rb, rdB x (s.wXT b0 c0 b1 c1 b2 c2 l0 l1 l2 T0.log T1.log T2.log oa' (bl + (ll - lo)) bcp' r1 r2 r3)) :: sm ++ [(vb, rvS rb da n cp off a B)]) (MEqv.trans (m' := (vb, rvS rb da n cp off a B) :: (rb, rdB x (s.wXT b0 c0 b1 c1 b2 c2 l0 l1 l2 T0.log T1.log T2.log oa' (bl + (ll - lo)) bcp' r1 r2 r3)) :: sm) (.cons rfl (.cons (blk_tab rfl rfl rfl rfl) (.refl _))) (.of_perm (List.perm_append_comm (l₁ := [_]) (l₂ := _ :: sm)))) ?_
    refine J_condP rfl (fun h8 => ?_) (fun h8 => ?_)
    · rw [decide_eq_false (show ¬ a % 8 = 0 by omega)] at hE
      refine go _ ?_
      refine ro_callT (merr_t S rb x (s.wXT b0 c0 b1 c1 b2 c2 l0 l1 l2 T0.log T1.log T2.log oa' (bl + (ll - lo)) bcp' r1 r2 r3) _ _) ?_ (fm := sm ++ [(vb, rvS rb da n cp off a B)]) (hs := .refl _)
      rintro v m ⟨⟨b', rfl⟩, rfl⟩
      refine go _ ?_
      refine J_ret ?_
      exact ends_retS [10] (post := (rb, rdB x (s.wXT b0 c0 b1 c1 b2 c2 l0 l1 l2 T0.log T1.log T2.log oa' (bl + (ll - lo)) bcp' r1 r2 r3)) :: sm) (junk := [(vb, _)]) (hbad _ _ _ _ _ hE hb2 ⟨b', rfl⟩) rfl (.refl _)
    · rw [decide_eq_true (show a % 8 = 0 by omega)] at hE
      refine go _ ?_
      refine J_ret ?_
      exact ends_retS [10] (post := (rb, rdB x (s.wXT b0 c0 b1 c1 b2 c2 l0 l1 l2 T0.log T1.log T2.log oa' (bl + (ll - lo)) bcp' r1 r2 r3)) :: sm) (junk := [(vb, _)]) (hgood _ _ _ _ hE hb2) rfl (.refl _)
  · obtain ⟨z0, hz0⟩ : ∃ z, z = T0.cell s0 := ⟨_, rfl⟩
    obtain ⟨z1, hz1⟩ : ∃ z, z = T1.cell s1 := ⟨_, rfl⟩
    obtain ⟨z2, hz2⟩ : ∃ z, z = T2.cell s2 := ⟨_, rfl⟩
    obtain ⟨k, hk⟩ : ∃ k, k = cnt - i - 1 := ⟨_, rfl⟩
    have hci : cnt - i = k + 1 := by omega
    rw [hci] at j2
    obtain ⟨st, hst⟩ : ∃ st, st = sqStep T0 T1 T2 d off L wl LT ll (decide (k = 0)) ⟨r1, r2, r3, Sy, bl, lo, a, s0, s1, s2⟩ := ⟨_, rfl⟩
    have j2 : sqLoop T0 T1 T2 d off L wl LT ll cnt X0 = if st.2 then sqLoop T0 T1 T2 d off L wl LT ll k st.1 else st := by rw [j2, hst]; rfl
    have hno : ∀ y, st = (y, false) → R = (y, false) := fun y hy => by
      rw [hy] at j2
      rw [if_neg (fun h => by cases h)] at j2
      rw [hE, j2, if_pos rfl]
    have hyes : ∀ y, st = (y, true) → sqLoop T0 T1 T2 d off L wl LT ll cnt X0 = sqLoop T0 T1 T2 d off L wl LT ll k y := fun y hy => by
      rw [hy, if_pos rfl] at j2; exact j2
    unfold sqStep at hst
    dsimp only at hst
    rw [← hz0, ← hz1, ← hz2] at hst
    have m0 := hm0 s0 j6
    have m1 := hm1 s1 j7
    have m2 := hm2 s2 j8
    have mt := hmt s2 j8
    have ho1 := hof s1 j7
    have x0 := hx0 s0 j6
    have x1 := hx1 s1 j7
    have x2 := hx2 s2 j8
    rw [← hz0] at m0 x0
    rw [← hz1] at m1 x1 ho1
    rw [← hz2] at m2 x2 mt
    refine go _ ?_
    refine J_condP rfl (fun hbig => ?_) (fun hfit => ?_)
    · rw [if_pos (by omega)] at hst
      refine go _ ?_
      refine ro_callT (rvErr_t S vb rb x (s.wXT b0 c0 b1 c1 b2 c2 l0 l1 l2 T0.log T1.log T2.log oa bl bcp r1 r2 r3) da n cp (a / 8) off B (a % 8) (by omega) _) ?_ (fm := bm) (hs := .refl _)
      rintro v m ⟨⟨b', rfl⟩, rfl⟩
      refine go _ ?_
      refine J_ret ?_
      exact ends_retS [10] (post := (rb, rdB x (s.wXT b0 c0 b1 c1 b2 c2 l0 l1 l2 T0.log T1.log T2.log oa bl bcp r1 r2 r3)) :: bm) (junk := [(vb, _)]) (hbad _ _ _ _ _ (hno _ hst) j3 ⟨b', rfl⟩) rfl (.of_perm (List.perm_append_comm (l₁ := [_]) (l₂ := _ :: bm)))
    rw [if_neg (by omega)] at hst
    refine go _ ?_
    refine ro_cell (j := 1) (v := .int .u8 (z1.more : Nat)) g1 q1 k1 rfl rfl j7 (by decide) (by omega) (by rw [← hz1]; rfl) rfl ?_
    refine go _ ?_
    have hw3 := rvV_lt d (a) z1.more
    refine ro_callT (rval_t S vb rb x (s.wXT b0 c0 b1 c1 b2 c2 l0 l1 l2 T0.log T1.log T2.log oa bl bcp r1 r2 r3) da n cp hd hv hn (a) B off z1.more j4 j5 (by omega) (by omega)) ?_ (fm := bm) (hs := .refl _)
    rintro v m (⟨hC3, rfl, hle3, B3, hR3, hn3, rfl⟩ | ⟨hC3, ⟨er, rfl, ⟨b', rfl⟩⟩, o', B', k', ho', rfl⟩)
    rotate_left
    · rw [if_pos hC3] at hst
      refine go _ ?_
      refine J_ret ?_
      exact ends_retS [10] (post := (rb, rdB x (s.wXT b0 c0 b1 c1 b2 c2 l0 l1 l2 T0.log T1.log T2.log oa bl bcp r1 r2 r3)) :: bm) (junk := [(vb, _)]) (hbad _ _ _ _ _ (hno _ hst) j3 ⟨b', rfl⟩) rfl (.of_perm (List.perm_append_comm (l₁ := [_]) (l₂ := _ :: bm)))
    rw [if_neg (not_not_intro hC3)] at hst
    refine go _ ?_
    refine ro_cell (j := 0) (v := .int .u32 (z1.base : Nat)) g1 q1 k1 rfl rfl j7 (by decide) (by omega) (by rw [← hz1]; rfl) rfl ?_
    refine go _ ?_
    refine ro_cell (j := 1) (v := .int .u8 (z2.more : Nat)) g2 q2 k2 rfl rfl j8 (by decide) (by omega) (by rw [← hz2]; rfl) rfl ?_
    refine go _ ?_
    have hw4 := rvV_lt d (a - z1.more) z2.more
    refine ro_callT (rval_t S vb rb x (s.wXT b0 c0 b1 c1 b2 c2 l0 l1 l2 T0.log T1.log T2.log oa bl bcp r1 r2 r3) da n cp hd hv hn (a - z1.more) B3 off z2.more hR3 hn3 (by omega) (by omega)) ?_ (fm := bm) (hs := .refl _)
    rintro v m (⟨hC4, rfl, hle4, B4, hR4, hn4, rfl⟩ | ⟨hC4, ⟨er, rfl, ⟨b', rfl⟩⟩, o', B', k', ho', rfl⟩)
    rotate_left
    · rw [if_pos hC4] at hst
      refine go _ ?_
      refine J_ret ?_
      exact ends_retS [10] (post := (rb, rdB x (s.wXT b0 c0 b1 c1 b2 c2 l0 l1 l2 T0.log T1.log T2.log oa bl bcp r1 r2 r3)) :: bm) (junk := [(vb, _)]) (hbad _ _ _ _ _ (hno _ hst) j3 ⟨b', rfl⟩) rfl (.of_perm (List.perm_append_comm (l₁ := [_]) (l₂ := _ :: bm)))
    rw [if_neg (not_not_intro hC4)] at hst
    refine go _ ?_
    refine ro_cell (j := 0) (v := .int .u32 (z2.base : Nat)) g2 q2 k2 rfl rfl j8 (by decide) (by omega) (by rw [← hz2]; rfl) rfl ?_
    refine go _ ?_
    refine ro_cell (j := 1) (v := .int .u8 (z0.more : Nat)) g0 q0 k0 rfl rfl j6 (by decide) (by omega) (by rw [← hz0]; rfl) rfl ?_
    refine go _ ?_
    have hw5 := rvV_lt d (a - z1.more - z2.more) z0.more
    refine ro_callT (rval_t S vb rb x (s.wXT b0 c0 b1 c1 b2 c2 l0 l1 l2 T0.log T1.log T2.log oa bl bcp r1 r2 r3) da n cp hd hv hn (a - z1.more - z2.more) B4 off z0.more hR4 hn4 (by omega) (by omega)) ?_ (fm := bm) (hs := .refl _)
    rintro v m (⟨hC5, rfl, hle5, B5, hR5, hn5, rfl⟩ | ⟨hC5, ⟨er, rfl, ⟨b', rfl⟩⟩, o', B', k', ho', rfl⟩)
    rotate_left
    · rw [if_pos hC5] at hst
      refine go _ ?_
      refine J_ret ?_
      exact ends_retS [10] (post := (rb, rdB x (s.wXT b0 c0 b1 c1 b2 c2 l0 l1 l2 T0.log T1.log T2.log oa bl bcp r1 r2 r3)) :: bm) (junk := [(vb, _)]) (hbad _ _ _ _ _ (hno _ hst) j3 ⟨b', rfl⟩) rfl (.of_perm (List.perm_append_comm (l₁ := [_]) (l₂ := _ :: bm)))
    rw [if_neg (not_not_intro hC5)] at hst
    refine go _ ?_
    refine ro_cell (j := 0) (v := .int .u32 (z0.base : Nat)) g0 q0 k0 rfl rfl j6 (by decide) (by omega) (by rw [← hz0]; rfl) rfl ?_
    refine go _ ?_
    refine ro_cell (j := 1) (v := .int .u8 (z1.more : Nat)) g1 q1 k1 rfl rfl j7 (by decide) (by omega) (by rw [← hz1]; rfl) rfl ?_
    refine go _ ?_
    obtain ⟨v1, hv1⟩ : ∃ w, w = z1.base + rvV d a z1.more := ⟨_, rfl⟩
    obtain ⟨v2, hv2⟩ : ∃ w, w = z2.base + rvV d (a - z1.more) z2.more := ⟨_, rfl⟩
    obtain ⟨v0, hv0⟩ : ∃ w, w = z0.base + rvV d (a - z1.more - z2.more) z0.more := ⟨_, rfl⟩
    rw [← hv1, ← hv2, ← hv0] at hst ⊢
    have hb1 : v1 < 4294967296 := by omega
    have hb2 : v2 < 262144 := by omega
    have hb0 : v0 < 4294967296 := by omega
    have hs1 : z1.more ≤ 1 → v1 ≤ 3 := fun h => by
      have := ho1 h
      have h2 : 2 ^ z1.more ≤ 2 ^ 1 := Nat.pow_le_pow_right (by omega) h
      omega
    obtain ⟨a1, ha1⟩ : ∃ w, w = a - z1.more - z2.more - z0.more := ⟨_, rfl⟩
    rw [← ha1] at hst hR5 hn5 ⊢
    refine J_joinE (σ := Nat × Nat × Nat × Nat) [0, 2, 3, 4, 11, 13, 14, 15, 16, 17, 18, 19, 23, 24] (fun t => [(22, .int .u32 (t.1 : Nat))]) (fun t => (vb, rvS rb da n cp off a1 B5) :: (rb, rdB x (s.wXT b0 c0 b1 c1 b2 c2 l0 l1 l2 T0.log T1.log T2.log oa bl bcp t.2.1 t.2.2.1 t.2.2.2)) :: bm) (fun t => t = repO z1.more v1 v0 r1 r2 r3 ∧ t.1 < 4294967296 ∧ t.2.1 < 4294967296 ∧ t.2.2.1 < 4294967296 ∧ t.2.2.2 < 4294967296) ?_ ?_
    · refine J_condP rfl (fun hm => ?_) (fun hm => ?_)
      · refine go _ ?_
        exact ⟨(v1, v1, r1, r2), ⟨by unfold repO; rw [if_pos (by omega)], hb1, hb1, j9, j10⟩, joined (.cons rfl (.cons (blk_tab rfl rfl rfl rfl) (.refl _)))⟩
      · have hv13 := hs1 (by omega)
        refine go _ ?_
        refine J_joinE (σ := Nat) [0, 2, 3, 4, 11, 13, 14, 15, 16, 17, 18, 19, 23, 24] (fun t => [(22, .int .u32 (t : Nat))]) (fun t => (vb, rvS rb da n cp off a1 B5) :: (rb, rdB x (s.wXT b0 c0 b1 c1 b2 c2 l0 l1 l2 T0.log T1.log T2.log oa bl bcp r1 r2 r3)) :: bm) (fun t => t = v1 + if v0 = 0 then 1 else 0) ?_ ?_
        · refine J_condP rfl (fun h => ?_) (fun h => ?_)
          · refine go _ ?_
            exact ⟨v1 + 1, by rw [if_pos (by omega)], joined (.refl _)⟩
          · refine go _ ?_
            exact ⟨v1, by rw [if_neg (by omega)]; rfl, joined (.refl _)⟩
        rintro t f ht
        have hre : repO z1.more v1 v0 r1 r2 r3 = if t = 1 then (r1, r1, r2, r3)
            else if t = 2 then (r2, r2, r1, r3)
            else if t = 3 then (r3, r3, r1, r2)
            else if t = 4 then ((r1 + 4294967295) % 4294967296, (r1 + 4294967295) % 4294967296, r1, r2)
            else (t, r1, r2, r3) := by
          unfold repO; rw [if_neg (by omega), ht]
        have ht5 : t ≤ 4 := by rw [ht]; split <;> omega
        clear ht
        refine go _ ?_
        refine J_condP rfl (fun h => ?_) (fun h1 => ?_)
        · refine go _ ?_
          exact ⟨(r1, r1, r2, r3), ⟨by rw [hre, if_pos (by omega)], j9, j9, j10, j11⟩, joined (.refl _)⟩
        refine go _ ?_
        refine J_condP rfl (fun h => ?_) (fun h2 => ?_)
        · refine go _ ?_
          exact ⟨(r2, r2, r1, r3), ⟨by rw [hre, if_neg (by omega), if_pos (by omega)], j10, j10, j9, j11⟩, joined (.cons rfl (.cons (blk_tab rfl rfl rfl rfl) (.refl _)))⟩
        refine go _ ?_
        refine J_condP rfl (fun h => ?_) (fun h3 => ?_)
        · refine go _ ?_
          exact ⟨(r3, r3, r1, r2), ⟨by rw [hre, if_neg (by omega), if_neg (by omega), if_pos (by omega)], j11, j11, j9, j10⟩, joined (.cons rfl (.cons (blk_tab rfl rfl rfl rfl) (.refl _)))⟩
        refine go _ ?_
        refine J_condP rfl (fun h => ?_) (fun h4 => ?_)
        · refine goB _ ?_
          refine ro_sub1U rfl rfl j9 rfl ?_
          obtain ⟨w, hw⟩ : ∃ w, w = (r1 + 4294967295) % 4294967296 := ⟨_, rfl⟩
          have hwl : w < 4294967296 := by omega
          rw [← hw] at hre ⊢
          refine go _ ?_
          exact ⟨(w, w, r1, r2), ⟨by rw [hre, if_neg (by omega), if_neg (by omega), if_neg (by omega), if_pos (by omega)], hwl, hwl, j9, j10⟩, joined (.cons rfl (.cons (blk_tab rfl rfl rfl rfl) (.refl _)))⟩
        · refine go _ ?_
          exact ⟨(t, r1, r2, r3), ⟨by rw [hre, if_neg (by omega), if_neg (by omega), if_neg (by omega), if_neg (by omega)], by dsimp only; omega, j9, j10, j11⟩, joined (.refl _)⟩
    rintro ⟨o, p1, p2, p3⟩ f ⟨hp, p4, p5, p6, p7⟩
    dsimp only at p4 p5 p6 p7
    rw [← hp] at hst
    dsimp only at hst ⊢
    refine go _ ?_
    refine J_joinE (σ := Nat × Nat × Nat × Nat × Nat) [0, 2, 3, 4, 11, 16, 22, 23, 24] (fun t => [(13, .int .u32 (t.2.2.1 : Nat)), (14, .int .u32 (t.2.2.2.1 : Nat)), (15, .int .u32 (t.2.2.2.2 : Nat))]) (fun t => (vb, rvS rb da n cp off t.1 t.2.1) :: (rb, rdB x (s.wXT b0 c0 b1 c1 b2 c2 l0 l1 l2 T0.log T1.log T2.log oa bl bcp p1 p2 p3)) :: bm) (fun t => st = sqDo L wl LT ll ⟨p1, p2, p3, Sy, bl, lo, t.1, t.2.2.1, t.2.2.2.1, t.2.2.2.2⟩ v0 o v2 ∧ RvOk d t.1 (t.1 % 8) t.2.1 ∧ t.1 / 8 ≤ n ∧ t.2.2.1 < l0 ∧ t.2.2.2.1 < l1 ∧ t.2.2.2.2 < l2) ?_ ?_
    · refine J_condP rfl (fun hmr => ?_) (fun hls => ?_)
      rotate_left
      · rw [if_pos (decide_eq_true (by omega))] at hst
        refine go _ ?_
        exact ⟨(a1, B5, s0, s1, s2), ⟨hst, hR5, hn5, j6, j7, j8⟩, joined (.refl _)⟩
      rw [if_neg (fun h => by have := of_decide_eq_true h; omega)] at hst
      refine go _ ?_
      refine ro_cell (j := 2) (v := .int .u8 (z0.bits : Nat)) g0 q0 k0 rfl rfl j6 (by decide) (by omega) (by rw [← hz0]; rfl) rfl ?_
      refine go _ ?_
      have hw6 := rvV_lt d (a1) z0.bits
      refine ro_callT (rval_t S vb rb x (s.wXT b0 c0 b1 c1 b2 c2 l0 l1 l2 T0.log T1.log T2.log oa bl bcp p1 p2 p3) da n cp hd hv hn (a1) B5 off z0.bits hR5 hn5 (by omega) (by omega)) ?_ (fm := bm) (hs := .refl _)
      rintro v m (⟨hC6, rfl, hle6, B6, hR6, hn6, rfl⟩ | ⟨hC6, ⟨er, rfl, ⟨b', rfl⟩⟩, o', B', k', ho', rfl⟩)
      rotate_left
      · rw [if_pos hC6] at hst
        refine go _ ?_
        refine J_ret ?_
        exact ends_retS [10] (post := (rb, rdB x (s.wXT b0 c0 b1 c1 b2 c2 l0 l1 l2 T0.log T1.log T2.log oa bl bcp p1 p2 p3)) :: bm) (junk := [(vb, _)]) (hbad _ _ _ _ _ (hno _ hst) j3 ⟨b', rfl⟩) rfl (.of_perm (List.perm_append_comm (l₁ := [_]) (l₂ := _ :: bm)))
      rw [if_neg (not_not_intro hC6)] at hst
      refine go _ ?_
      refine ro_cell (j := 3) (v := .int .u16 (z0.next : Nat)) g0 q0 k0 rfl rfl j6 (by decide) (by omega) (by rw [← hz0]; rfl) rfl ?_
      refine go _ ?_
      refine ro_cell (j := 2) (v := .int .u8 (z2.bits : Nat)) g2 q2 k2 rfl rfl j8 (by decide) (by omega) (by rw [← hz2]; rfl) rfl ?_
      refine go _ ?_
      have hw7 := rvV_lt d (a1 - z0.bits) z2.bits
      refine ro_callT (rval_t S vb rb x (s.wXT b0 c0 b1 c1 b2 c2 l0 l1 l2 T0.log T1.log T2.log oa bl bcp p1 p2 p3) da n cp hd hv hn (a1 - z0.bits) B6 off z2.bits hR6 hn6 (by omega) (by omega)) ?_ (fm := bm) (hs := .refl _)
      rintro v m (⟨hC7, rfl, hle7, B7, hR7, hn7, rfl⟩ | ⟨hC7, ⟨er, rfl, ⟨b', rfl⟩⟩, o', B', k', ho', rfl⟩)
      rotate_left
      · rw [if_pos hC7] at hst
        refine go _ ?_
        refine J_ret ?_
        exact ends_retS [10] (post := (rb, rdB x (s.wXT b0 c0 b1 c1 b2 c2 l0 l1 l2 T0.log T1.log T2.log oa bl bcp p1 p2 p3)) :: bm) (junk := [(vb, _)]) (hbad _ _ _ _ _ (hno _ hst) j3 ⟨b', rfl⟩) rfl (.of_perm (List.perm_append_comm (l₁ := [_]) (l₂ := _ :: bm)))
      rw [if_neg (not_not_intro hC7)] at hst
      refine go _ ?_
      refine ro_cell (j := 3) (v := .int .u16 (z2.next : Nat)) g2 q2 k2 rfl rfl j8 (by decide) (by omega) (by rw [← hz2]; rfl) rfl ?_
      refine go _ ?_
      refine ro_cell (j := 2) (v := .int .u8 (z1.bits : Nat)) g1 q1 k1 rfl rfl j7 (by decide) (by omega) (by rw [← hz1]; rfl) rfl ?_
      refine go _ ?_
      have hw8 := rvV_lt d (a1 - z0.bits - z2.bits) z1.bits
      refine ro_callT (rval_t S vb rb x (s.wXT b0 c0 b1 c1 b2 c2 l0 l1 l2 T0.log T1.log T2.log oa bl bcp p1 p2 p3) da n cp hd hv hn (a1 - z0.bits - z2.bits) B7 off z1.bits hR7 hn7 (by omega) (by omega)) ?_ (fm := bm) (hs := .refl _)
      rintro v m (⟨hC8, rfl, hle8, B8, hR8, hn8, rfl⟩ | ⟨hC8, ⟨er, rfl, ⟨b', rfl⟩⟩, o', B', k', ho', rfl⟩)
      rotate_left
      · rw [if_pos hC8] at hst
        refine go _ ?_
        refine J_ret ?_
        exact ends_retS [10] (post := (rb, rdB x (s.wXT b0 c0 b1 c1 b2 c2 l0 l1 l2 T0.log T1.log T2.log oa bl bcp p1 p2 p3)) :: bm) (junk := [(vb, _)]) (hbad _ _ _ _ _ (hno _ hst) j3 ⟨b', rfl⟩) rfl (.of_perm (List.perm_append_comm (l₁ := [_]) (l₂ := _ :: bm)))
      rw [if_neg (not_not_intro hC8)] at hst
      refine go _ ?_
      refine ro_cell (j := 3) (v := .int .u16 (z1.next : Nat)) g1 q1 k1 rfl rfl j7 (by decide) (by omega) (by rw [← hz1]; rfl) rfl ?_
      refine go _ ?_
      exact ⟨(a1 - z0.bits - z2.bits - z1.bits, B8, z0.next + rvV d a1 z0.bits, z1.next + rvV d (a1 - z0.bits - z2.bits) z1.bits, z2.next + rvV d (a1 - z0.bits) z2.bits), ⟨hst, hR8, hn8, by dsimp only; omega, by dsimp only; omega, by dsimp only; omega⟩, joined (.refl _)⟩
    clear hw3 hw4 hw5 hR3 hR4 hR5 hn3 hn4 hn5 hle3 hle4 hle5 hC3 hC4 hC5 ha1 j4 j5 j6 j7 j8 hst
    rintro ⟨a2, B2, t0, t1, t2⟩ f ⟨hst, y1, y2, y3, y4, y5⟩
    dsimp only at hst y1 y2 y3 y4 y5 ⊢
    unfold sqDo at hst
    dsimp only at hst
    refine go _ ?_
    refine J_condP rfl (fun hbg => ?_) (fun hok => ?_)
    · rw [if_pos (by omega)] at hst
      refine go _ ?_
      refine ro_callT (rvErr_t S vb rb x (s.wXT b0 c0 b1 c1 b2 c2 l0 l1 l2 T0.log T1.log T2.log oa bl bcp p1 p2 p3) da n cp (a2 / 8) off B2 (a2 % 8) (by omega) _) ?_ (fm := bm) (hs := .refl _)
      rintro v m ⟨⟨b', rfl⟩, rfl⟩
      refine go _ ?_
      refine J_ret ?_
      exact ends_retS [10] (post := (rb, rdB x (s.wXT b0 c0 b1 c1 b2 c2 l0 l1 l2 T0.log T1.log T2.log oa bl bcp p1 p2 p3)) :: bm) (junk := [(vb, _)]) (hbad _ _ _ _ _ (hno _ hst) j3 ⟨b', rfl⟩) rfl (.of_perm (List.perm_append_comm (l₁ := [_]) (l₂ := _ :: bm)))
    rw [if_neg (by omega)] at hst
    have hlc := j13.le
    refine go _ ?_
    refine J_joinE (σ := Option Addr × Nat × Mem × Option Addr × Nat) [0, 2, 4, 11, 13, 14, 15, 16, 22, 23] (fun t => [(3, .slice t.2.2.2.1 (ll - lo - v0) t.2.2.2.2)]) (fun t => (vb, rvS rb da n cp off a2 B2) :: (rb, rdB x (s.wXT b0 c0 b1 c1 b2 c2 l0 l1 l2 T0.log T1.log T2.log t.1 (bl + v0) t.2.1 p1 p2 p3)) :: t.2.2.1) (fun t => BufN (.slice t.1 (bl + v0) t.2.1) (bl + v0) (apD Sy bl v0 fun i => LT (lo + i)) t.2.2.1 ∧ View G t.2.2.2.1 (ll - lo - v0) t.2.2.2.2 (fun i => LT (lo + v0 + i))) ?_ ?_
    · refine J_condP rfl (fun hpos => ?_) (fun hnil => ?_)
      · refine go _ ?_
        refine ro_slVT v0 j13 rfl rfl rfl rfl rfl (by omega) rfl ?_
        refine go _ ?_
        refine ro_appV (fm := [(vb, rvS rb da n cp off a2 B2), (rb, rdB x (s.wXT b0 c0 b1 c1 b2 c2 l0 l1 l2 T0.log T1.log T2.log oa bl bcp p1 p2 p3))]) rfl rfl rfl rfl z5 (by decide) rfl rfl j3 ((by classical exact List.perm_iff_count.2 fun a => by first | (simp only [List.count_append, List.count_cons, List.count_nil]; omega) | (simp only [List.append_eq, List.count_append, List.count_cons, List.count_nil]; omega))) rfl (j13.cut (show v0 ≤ ll - lo by omega)).add (by omega) hex rfl ?_
        intro oa' bcp' sm hb2
        refine go _ ?_
        refine ro_slV v0 (ll - lo) j13 rfl rfl rfl rfl rfl rfl rfl (by omega) (by omega) rfl ?_
        refine go _ ?_
        exact ⟨(oa', bcp', sm, subA la v0 lc, lc - v0), ⟨hb2, (j13.sub (show v0 ≤ ll - lo by omega) (Nat.le_refl _)).congr fun i _ => by rw [Nat.add_assoc]⟩, joined (.cons rfl (.cons (blk_tab rfl rfl rfl rfl) (.refl _)))⟩
      · have hv00 : v0 = 0 := by omega
        subst hv00
        refine go _ ?_
        exact ⟨(oa, bcp, bm, la, lc), ⟨by rw [apD_zero]; exact j3, j13⟩, joined (.refl _)⟩
    rintro ⟨oa1, bcp1, bm1, la1, lc1⟩ f ⟨u1, u2⟩
    dsimp only at u1 u2 ⊢
    rw [Nat.sub_sub] at u2 ⊢
    refine go _ ?_
    refine J_condP rfl (fun hpos => ?_) (fun hnil => ?_)
    · rw [if_neg (by omega)] at hst
      refine go _ ?_
      refine ro_callT (match_t S rb vb x (s.wXT b0 c0 b1 c1 b2 c2 l0 l1 l2 T0.log T1.log T2.log oa1 (bl + v0) bcp1 p1 p2 p3) da n cp (a2 / 8) off B2 (a2 % 8) (by omega) wa wl wcp ph hwd hw hwo hwl oa1 (bl + v0) bcp1 _ bm1 u1 (by omega) o v2 p4 (by omega)) ?_ (fm := []) (hs := .of_perm (by rw [List.append_nil]; exact .refl _))
      rintro v m hvm
      unfold MatP at hvm
      by_cases hno2 : o = 0 ∨ bl + v0 < o ∧ wl < o - (bl + v0)
      · rw [if_pos hno2] at hvm
        obtain ⟨⟨b', rfl⟩, rfl⟩ := hvm
        have hst : st = (⟨p1, p2, p3, apD Sy bl v0 fun i => LT (lo + i), bl + v0, lo + v0, a2, t0, t1, t2⟩, false) := by
          rw [hst]
          by_cases hoz : o = 0
          · rw [if_pos hoz]
          · rw [if_neg hoz, if_pos (by omega)]
        refine go _ ?_
        refine J_ret ?_
        exact ends_retS [10] (post := (rb, rdB x (s.wXT b0 c0 b1 c1 b2 c2 l0 l1 l2 T0.log T1.log T2.log oa1 (bl + v0) bcp1 p1 p2 p3)) :: bm1) (junk := [(vb, _)]) (hbad _ _ _ _ _ (hno _ hst) u1 ⟨b', rfl⟩) rfl (.of_perm (by rw [List.append_nil]; exact List.perm_append_comm (l₁ := [_]) (l₂ := _ :: bm1)))
      · rw [if_neg hno2] at hvm
        obtain ⟨rfl, oa2, bcp2, bm2, u3, rfl⟩ := hvm
        rw [if_neg (by omega), if_neg (by omega)] at hst
        refine go _ ?_
        have hst : st = (⟨p1, p2, p3, mcp (apD Sy bl v0 fun i => LT (lo + i)) (bl + v0) (winF ph s.wo wl) wl o v2, bl + v0 + v2, lo + v0, a2, t0, t1, t2⟩, true) := by rw [hst, hL]
        exact ⟨⟨i + 1, ⟨p1, p2, p3, _, bl + v0 + v2, lo + v0, a2, t0, t1, t2⟩, B2, oa2, bcp2, bm2, la1, lc1⟩, by dsimp only; omega, ⟨by dsimp only; omega, by dsimp only; rw [show cnt - (i + 1) = k by omega]; exact hyes _ hst, u3, y1, y2, ⟨y3, y4, y5⟩, ⟨p5, p6, p7⟩, by dsimp only; omega, u2, by dsimp only; omega⟩, joined (.of_perm (by rw [List.append_nil]; exact .refl _))⟩
    · rw [if_pos (by omega)] at hst
      refine go _ ?_
      exact ⟨⟨i + 1, ⟨p1, p2, p3, _, bl + v0, lo + v0, a2, t0, t1, t2⟩, B2, oa1, bcp1, bm1, la1, lc1⟩, by dsimp only; omega, ⟨by dsimp only; omega, by dsimp only; rw [show cnt - (i + 1) = k by omega]; exact hyes _ hst, u1, y1, y2, ⟨y3, y4, y5⟩, ⟨p5, p6, p7⟩, by dsimp only; omega, u2, by dsimp only; omega⟩, joined (.refl _)⟩
end Go.Proofs.YtogmacnlpclgkaaDoor
