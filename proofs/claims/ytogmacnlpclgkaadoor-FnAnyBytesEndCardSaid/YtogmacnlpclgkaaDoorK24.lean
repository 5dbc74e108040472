/-
  TEXTS MERGED: C5, P4.
-/
import Derived.Test.YtogmacnlpclgkaaDoorK23
/-! COMPRESSED BLOCKS 5: readFSE. -/
namespace Go.Proofs.YtogmacnlpclgkaaDoor
open Go Go.Eng Go.Pz
attribute [local irreducible] RO J Trip Quiet
set_option maxRecDepth 20000
variable {G : Mem} {d : Nat → Nat}

/-- Behind a share of none. -/
def fseZ (d : Nat → Nat) (N mx k q left : Nat) (sh : Nat → Int) (c : Nat) : Option ((Nat → Int) × Nat × Nat) :=
  if mx < c then none
  else if 8 * N < q + 2 * zrun d q (4 * N) + 16 then none
  else if mx < c + 3 * zrun d q (4 * N) + bitsAt d (q + 2 * zrun d q (4 * N)) 2 then none
  else fseLoop true d N mx k (q + 2 * zrun d q (4 * N) + 2) left sh (c + 3 * zrun d q (4 * N) + bitsAt d (q + 2 * zrun d q (4 * N)) 2)

structure FseS where
  z : Bool
  k : Nat
  q : Nat
  h : Nat
  left : Nat
  sh : Nat → Int
  c : Nat
def FseS.res (d : Nat → Nat) (N mx : Nat) (t : FseS) : Option ((Nat → Int) × Nat × Nat) := if t.z then fseZ d N mx t.k t.q t.left t.sh t.c else fseLoop true d N mx t.k t.q t.left t.sh t.c
structure FseI (N mx : Nat) (t : FseS) : Prop where
  h23 : t.h ≤ 23
  al : (t.q + t.h) % 8 = 0
  le : t.q + t.h ≤ 8 * N
  left : t.left ≤ 512
  c : t.c ≤ mx + 1
  k : mx + 2 ≤ t.k + t.c
  zero : ∀ i, t.c ≤ i → t.sh i = 0
  rng : ∀ i, -1 ≤ t.sh i ∧ t.sh i ≤ 512
  zl : t.z = true → t.left ≠ 0

theorem fwErrS_t (S : Sent G) (bb rb : Nat) (x : Int) (s : RS) (da : Option Addr) (n cp q k : Nat) (hoff : q + k < 2 ^ 32) (str : ByteArray) :
    Trip Tryd.prog G 90 #[.pointer (some ⟨bb, 0, none⟩), .string str] [(bb, fwS rb da n cp d q k), (rb, rdB x s)] (fun v m => ErrV S .z v ∧ m = [(bb, fwS rb da n cp d q k), (rb, rdB x s)]) :=
  fwErr_t S bb rb x s da n cp ((q + k) / 8) (bitsAt d q k) k (by omega) str

theorem log2_p1 {log : Nat} (h : 1 ≤ log) : Nat.log2 (2 ^ log + 1) = log := by
  have h1 : 2 ^ log + 1 ≠ 0 := Nat.succ_ne_zero _
  have h2 : 2 ≤ 2 ^ log := Nat.pow_le_pow_right (n := 2) (i := 1) (by omega) h
  have h3 : Nat.log2 (2 ^ log + 1) < log + 1 := (Nat.log2_lt h1).2 (by rw [Nat.pow_succ]; omega)
  have h4 : log ≤ Nat.log2 (2 ^ log + 1) := (Nat.le_log2 h1).2 (by omega)
  omega

theorem FseS.next {k q h left c1 N mx r1 r2 : Nat} {sh : Nat → Int} (hr : fval d q (left + 1) = (r1, r2)) (hl : left ≠ 0) (hc : c1 ≤ mx) (h16 : q + 16 ≤ 8 * N) :
    fseLoop true d N mx (k + 1) q left sh c1 = FseS.res d N mx ⟨decide ((r1 : Int) - 1 = 0), k, q + r2, h, left - ((r1 : Int) - 1).natAbs, updI sh c1 ((r1 : Int) - 1), c1 + 1⟩ := by
  rw [fseLoop]
  rw [if_neg hl, if_neg (by omega)]
  dsimp only
  rw [hr]
  have g : ¬ (8 * N < q + (if true = true then 16 else r2)) := by rw [if_pos rfl]; omega
  dsimp only
  rw [if_neg g]
  unfold FseS.res
  dsimp only
  by_cases hp : (r1 : Int) - 1 = 0
  · rw [if_pos hp, hp]
    unfold fseZ
    rfl
  · rw [if_neg hp]
    have g2 : decide ((r1 : Int) - 1 = 0) = false := decide_eq_false hp
    rw [g2]
    rfl

theorem bits6 {q : Nat} (h : bitsAt d q 12 = 4095) : ∀ i, i < 6 → bitsAt d (q + 2 * i) 2 = 3 := by
  have e1 := bitsAt_add d 2 10 q
  have e2 := bitsAt_add d 2 8 (q + 2)
  have e3 := bitsAt_add d 2 6 (q + 2 + 2)
  have e4 := bitsAt_add d 2 4 (q + 2 + 2 + 2)
  have e5 := bitsAt_add d 2 2 (q + 2 + 2 + 2 + 2)
  have l1 := bitsAt_lt d 2 q
  have l2 := bitsAt_lt d 2 (q + 2)
  have l3 := bitsAt_lt d 2 (q + 2 + 2)
  have l4 := bitsAt_lt d 2 (q + 2 + 2 + 2)
  have l5 := bitsAt_lt d 2 (q + 2 + 2 + 2 + 2)
  have l6 := bitsAt_lt d 2 (q + 2 + 2 + 2 + 2 + 2)
  simp only [Nat.reduceAdd, Nat.reducePow] at e1 e2 e3 e4 e5 l1 l2 l3 l4 l5 l6
  intro i hi
  rcases (by omega : i = 0 ∨ i = 1 ∨ i = 2 ∨ i = 3 ∨ i = 4 ∨ i = 5) with rfl | rfl | rfl | rfl | rfl | rfl
  · show bitsAt d (q + 0) 2 = 3; rw [Nat.add_zero]; omega
  · show bitsAt d (q + 2) 2 = 3; omega
  · show bitsAt d (q + 2 + 2) 2 = 3; omega
  · show bitsAt d (q + 2 + 2 + 2) 2 = 3; omega
  · show bitsAt d (q + 2 + 2 + 2 + 2) 2 = 3; omega
  · show bitsAt d (q + 2 + 2 + 2 + 2 + 2) 2 = 3; omega
theorem zrun_one {q k : Nat} (h : bitsAt d q 2 = 3) (hk : 1 ≤ k) : zrun d q k = 1 + zrun d (q + 2) (k - 1) := by
  obtain ⟨k, rfl⟩ : ∃ k', k = k' + 1 := ⟨k - 1, by omega⟩
  rw [zrun, if_pos h, Nat.add_sub_cancel, Nat.add_comm]
theorem zrun_none {q k : Nat} (h : bitsAt d q 2 ≠ 3) : zrun d q k = 0 := by
  cases k with
  | zero => rfl
  | succ k => rw [zrun, if_neg h]
theorem zrun_six {q k : Nat} (h : bitsAt d q 12 = 4095) (hk : 6 ≤ k) : zrun d q k = 6 + zrun d (q + 12) (k - 6) := by
  have h0 : bitsAt d q 2 = 3 := bits6 h 0 (by omega)
  have h1 := bits6 h 1 (by omega)
  have h2 := bits6 h 2 (by omega)
  have h3 := bits6 h 3 (by omega)
  have h4 := bits6 h 4 (by omega)
  have h5 := bits6 h 5 (by omega)
  rw [zrun_one h0 (by omega), zrun_one h1 (by omega), zrun_one h2 (by omega), zrun_one h3 (by omega), zrun_one h4 (by omega), zrun_one h5 (by omega)]
  rw [show k - 1 - 1 - 1 - 1 - 1 - 1 = k - 6 by omega, show q + 2 * 5 + 2 = q + 12 by omega]
  omega

set_option maxHeartbeats 3000000 in
theorem readFSE_t (S : Sent G) (rb tb : Nat) (x : Int) (s : RS) (da : Option Addr) (n cp : Nat) (hd : ∀ i, d i < 256) (hv : View G da n cp d) (hn : n ≤ 2 ^ 20) (off mx mb tl tc : Nat) (TB : Blk) (hoff : off ≤ n) (hmx : mx ≤ 255) (hmb : mb ≤ 9) (htl : 2 ^ mb ≤ tl) (htc : tl ≤ tc) (hTB : tl * 3 ≤ TB.n) (hfr : TB.fr = (0, 0)) :
    Trip Tryd.prog G 74 #[.pointer (some ⟨rb, 0, none⟩), .slice da n cp, .int .i64 (off : Nat), .int .i64 (mx : Nat), .int .i64 (mb : Nat), .slice (some ⟨tb, 0, none⟩) tl tc] [(rb, rdB x s), (tb, TB)] (fun v m =>
      match probs true d n mb mx (8 * off) with
      | some (log, sh, _, q) => v = .tuple #[.int .i64 (log : Nat), .int .i64 (((q + 7) / 8 : Nat) : Int), .nilIface] ∧ ∃ g, m = [(rb, rdB x s), (tb, ⟨TB.n, g, TB.T, (0, 0)⟩)] ∧ FseG g sh (mx + 1) log ∧ ∀ c, 3 * 2 ^ log ≤ c → g c = TB.g c
      | none => ∃ e, v = .tuple #[.int .i64 0, .int .i64 0, e] ∧ ErrV S .z e ∧ m = [(rb, rdB x s), (tb, TB)]) := by
  refine Trip_of Tryd.func74 rfl (by show 6 ≤ _; decide) (args := [.pointer (some ⟨rb, 0, none⟩), .slice da n cp, .int .i64 (off : Nat), .int .i64 (mx : Nat), .int .i64 (mb : Nat), .slice (some ⟨tb, 0, none⟩) tl tc]) fun c h0 hex => ?_
  unfold probs
  refine go _ ?_
  refine ro_callT (mkbr_t rb da n cp off (by omega)) ?_
  rintro v m ⟨rfl, rfl⟩
  refine go _ ?_
  refine ro_alloc z172 rfl hex fun bb hbb => ?_
  refine go _ ?_
  refine ro_storeAgg (s := 4) (vs := [.pointer (some ⟨rb, 0, none⟩), .slice da n cp, .int .u32 (off : Nat), .int .u32 0, .int .u32 0]) rfl rfl rfl rfl (fun v hv => by simp only [List.mem_cons, List.not_mem_nil, or_false] at hv; rcases hv with rfl | rfl | rfl | rfl | rfl <;> rfl) .here (Nat.le_refl 5) rfl hex ?_
  refine RO_eqv (m' := [(bb, fwS rb da n cp d (8 * off) 0), (rb, rdB x s), (tb, TB)]) ?hM ?hQ ?hR
  case hM =>
    refine .cons ?_ (.refl _)
    refine Eq.trans (b := (fwB rb da n cp off 0 0).obj) (blk_tab rfl rfl rfl rfl) ?_
    unfold fwS
    rw [show (8 * off + 0) / 8 = off by omega]; rfl
  case hQ =>
    intro f h
    refine J_eqv ?_ h
    refine .cons ?_ (.refl _)
    refine Eq.trans (b := (fwB rb da n cp off 0 0).obj) (blk_tab rfl rfl rfl rfl) ?_
    unfold fwS
    rw [show (8 * off + 0) / 8 = off by omega]; rfl
  refine go _ ?_
  refine ro_callT (more_t S bb rb x s da n cp hd hv hn (8 * off) 0 (by omega) (by omega) (by omega)) ?_
  rintro v m (⟨h16, rfl, k1, a1, a2, a3, a4, rfl⟩ | ⟨h16, ⟨b', rfl⟩, B', rfl⟩)
  · rw [if_neg (by simp; omega)]
    refine go _ ?_
    refine ro_callT (val_t (d := d) bb rb da n cp (8 * off) k1 4 (by omega) a2 a3 (by omega)) ?_
    rintro v m ⟨rfl, rfl⟩
    obtain ⟨L4, hL4⟩ : ∃ L4, L4 = bitsAt d (8 * off) 4 := ⟨_, rfl⟩
    have hb4 := bitsAt_lt d 4 (8 * off)
    rw [← hL4] at hb4 ⊢
    dsimp only
    refine go _ ?_
    refine J_condP rfl (fun hbig => ?_) (fun hsm => ?_)
    · rw [if_pos (by omega)]
      refine go _ ?_
      refine ro_callT (fwErrS_t (d := d) S bb rb x s da n cp (8 * off + 4) (k1 - 4) (by omega) _) ?_
      rintro v m ⟨⟨b', rfl⟩, rfl⟩
      refine go _ ?_
      refine J_ret ?_
      exact ends_retS [12, 13, 14] (post := [(rb, rdB x s), (tb, TB)]) (junk := [(bb, _)]) ⟨_, rfl, ⟨b', rfl⟩, rfl⟩ rfl (.of_perm (List.perm_append_comm (l₁ := [_]) (l₂ := [_, _])))
    · rw [if_neg (by omega)]
      obtain ⟨log, hlog⟩ : ∃ log, log = L4 + 5 := ⟨_, rfl⟩
      rw [← hlog]
      have h5 : 5 ≤ log := by omega
      have hlm : log ≤ mb := by omega
      have hp9 : 2 ^ log ≤ 2 ^ 9 := Nat.pow_le_pow_right (by omega) (by omega)
      have hpm : 2 ^ log ≤ 2 ^ mb := Nat.pow_le_pow_right (by omega) hlm
      have hp1 : 32 ≤ 2 ^ log := Nat.pow_le_pow_right (n := 2) (i := 5) (by omega) h5
      clear hsm hL4 hb4
      refine go _ ?_
      refine ro_alloc z176 rfl hex fun nb hnb => ?_
      refine go _ ?_
      obtain ⟨E, hE⟩ : ∃ E, E = fseLoop true d n mx (mx + 2) (8 * off + 4) (2 ^ log) (fun _ => 0) 0 := ⟨_, rfl⟩
      rw [← hE]
      refine J_cutHere [(0, .pointer (some ⟨rb, 0, none⟩)), (2, .int .i64 (off : Nat)), (3, .int .i64 (mx : Nat)), (5, .slice (some ⟨tb, 0, none⟩) tl tc), (15, .pointer (some ⟨bb, 0, none⟩)), (17, .int .i64 (log : Nat)), (18, .int .i64 ((2 ^ log + 1 : Nat) : Int)), (19, .int .i64 ((2 ^ Nat.log2 (2 ^ log + 1) : Nat) : Int)), (20, .int .i64 ((Nat.log2 (2 ^ log + 1) + 1 : Nat) : Int)), (21, .int .i64 ((0 : Nat) : Int)), (22, .bool false), (23, .pointer (some ⟨nb, 0, none⟩))]
        [(bb, fwS rb da n cp d (8 * off + 4) (k1 - 4)), (nb, arrZ .i16 256 (fun _ => 0) 176), (rb, rdB x s), (tb, TB)]
        ⟨rfl, rfl, rfl, rfl, rfl, rfl, by show Value.int .i64 ((1 * 2 ^ log + 1 : Nat) : Int) = _; rw [Nat.one_mul], by show Value.int .i64 ((1 * 2 ^ log : Nat) : Int) = _; rw [Nat.one_mul, log2_p1 (by omega)], by show Value.int .i64 ((log + 1 : Nat) : Int) = _; rw [log2_p1 (by omega)], rfl, rfl, rfl, trivial⟩
        (MEqv.trans (.of_perm (List.Perm.swap _ _ _)) (.skip (.cons (blk_tab rfl rfl rfl rfl) (.refl _)))) fun f => ?_
      refine J_loopL (σ := FseS) [] (fun t => [(0, .pointer (some ⟨rb, 0, none⟩)), (2, .int .i64 (off : Nat)), (3, .int .i64 (mx : Nat)), (5, .slice (some ⟨tb, 0, none⟩) tl tc), (15, .pointer (some ⟨bb, 0, none⟩)), (17, .int .i64 (log : Nat)), (18, .int .i64 ((t.left + 1 : Nat) : Int)), (19, .int .i64 ((2 ^ Nat.log2 (t.left + 1) : Nat) : Int)), (20, .int .i64 ((Nat.log2 (t.left + 1) + 1 : Nat) : Int)), (21, .int .i64 (t.c : Nat)), (22, .bool t.z), (23, .pointer (some ⟨nb, 0, none⟩))])
        (fun t => [(bb, fwS rb da n cp d t.q t.h), (nb, arrZ .i16 256 t.sh 176), (rb, rdB x s), (tb, TB)])
        (fun t => FseI n mx t ∧ t.res d n mx = E) (fun t => 2 * t.k + (if t.z then 1 else 0)) ⟨false, mx + 2, 8 * off + 4, k1 - 4, 2 ^ log, fun _ => 0, 0⟩ (.refl _)
        ⟨⟨by dsimp only; omega, by dsimp only; omega, by dsimp only; omega, by dsimp only; omega, Nat.zero_le _, by dsimp only; omega, fun _ _ => rfl, fun _ => ⟨by show (-1 : Int) ≤ 0; decide, by show (0 : Int) ≤ 512; decide⟩, fun h => absurd (show false = true from h) (by decide)⟩, hE.symm⟩ ?_
      rintro ⟨z, k, q, h, left, sh, c1⟩ f ⟨hI, hres⟩
      obtain ⟨i1, i2, i3, i4, i5, i6, i7, i8, i9⟩ := hI
      dsimp only at i1 i2 i3 i4 i5 i6 i7 i8 i9 ⊢
      refine go _ ?_
      refine ro_splitP 55 rfl (fun hgt => ?_) (fun hle => ?_)
      · refine go _ ?_
        refine J_condP rfl (fun hcm => ?_) (fun hcm => ?_)
        · have hcm' : c1 ≤ mx := by omega
          refine go _ ?_
          refine ro_callT (more_t S bb rb x s da n cp hd hv hn q h i1 i2 i3) ?_
          rintro v m (⟨h16, rfl, k2, b1, b2, b3, b4, rfl⟩ | ⟨h16, ⟨b', rfl⟩, B', rfl⟩)
          · refine go _ ?_
            refine J_cond rfl (fun hz => ?_) (fun hz => ?_)
            · have hz' : z = true := hz
              subst hz'
              refine go _ ?_
              refine J_loopL (σ := Nat × Nat) [0, 2, 3, 5, 15, 17, 18, 19, 20, 21, 23] (fun t => [(25, .int .i64 ((c1 + 3 * t.1 : Nat) : Int))]) (fun t => [(bb, fwS rb da n cp d (q + 2 * t.1) t.2), (rb, rdB x s), (nb, arrZ .i16 256 sh 176), (tb, TB)])
                (fun t => zrun d q (4 * n) = t.1 + zrun d (q + 2 * t.1) (4 * n - t.1) ∧ 16 ≤ t.2 ∧ t.2 ≤ 23 ∧ (q + 2 * t.1 + t.2) % 8 = 0 ∧ q + 2 * t.1 + t.2 ≤ 8 * n) (fun t => 4 * n - t.1) (0, k2) (.refl _) ⟨by dsimp only; rw [Nat.mul_zero, Nat.add_zero, Nat.sub_zero, Nat.zero_add], b1, b2, b3, b4⟩ ?_
              rintro ⟨w, k3⟩ f ⟨e1, e2, e3, e4, e5⟩
              dsimp only at e1 e2 e3 e4 e5 ⊢
              have hb3 := bitsAt_lt d k3 (q + 2 * w)
              have h2k3 : 2 ^ k3 ≤ 2 ^ 23 := Nat.pow_le_pow_right (by omega) e3
              refine go _ ?_
              refine J_condP rfl (fun hsix => ?_) (fun hnsix => ?_)
              · have hzr : zrun d (q + 2 * w) (4 * n - w) = 6 + zrun d (q + 2 * w + 12) (4 * n - w - 6) := zrun_six (by
                  rw [← bitsAt_mod d (q + 2 * w) (by omega : 12 ≤ k3)]
                  show _ % 4096 = 4095
                  omega) (by omega)
                obtain ⟨zz, hzz⟩ : ∃ zz, zz = zrun d (q + 2 * w + 12) (4 * n - w - 6) := ⟨_, rfl⟩
                clear hsix
                clear hzz
                refine go _ ?_
                have hblk : (((fwS rb da n cp d (q + 2 * w) k3).st 3 (.int .u32 (bitsAt d (q + 2 * w) k3 / 2 ^ 12 : Nat))).st 4 (.int .u32 (k3 - 12 : Nat))  |> Blk.obj) = (fwS rb da n cp d (q + 2 * (w + 6)) (k3 - 12)).obj := by
                  refine (fw_34 rb da n cp _ _ _ _ _).trans ?_
                  rw [bitsAt_div d _ (by omega : 12 ≤ k3), show (q + 2 * w + k3) / 8 = (q + 2 * (w + 6) + (k3 - 12)) / 8 by omega, show q + 2 * w + 12 = q + 2 * (w + 6) by omega]
                  rfl
                refine RO_eqv (.cons hblk (.refl _)) (fun _ h => J_eqv (.cons hblk (.refl _)) h) ?_
                refine ro_callT (more_t S bb rb x s da n cp hd hv hn (q + 2 * (w + 6)) (k3 - 12) (by omega) (by omega) (by omega)) ?_
                rintro v m (⟨h16', rfl, k4, d1, d2, d3, d4, rfl⟩ | ⟨h16', ⟨b', rfl⟩, B', rfl⟩)
                · refine go _ ?_
                  refine ⟨(w + 6, k4), by dsimp only; omega, ⟨by dsimp only; rw [e1, hzr, show 4 * n - w - 6 = 4 * n - (w + 6) by omega, show q + 2 * w + 12 = q + 2 * (w + 6) by omega]; omega, d1, d2, d3, d4⟩, ⟨by show Value.int .i64 _ = Value.int .i64 _; congr 1, rfl, rfl, rfl, rfl, rfl, rfl, rfl, rfl, rfl, rfl, rfl, trivial⟩, .refl _⟩
                · have hEn : E = none := by
                    rw [← hres]
                    unfold FseS.res fseZ
                    dsimp only
                    rw [if_pos rfl, if_neg (by omega), if_pos (by omega)]
                  subst hEn
                  refine go _ ?_
                  refine J_ret ?_
                  exact ends_retS [12, 13, 14] (post := [(rb, rdB x s), (tb, TB)]) ⟨_, rfl, ⟨b', rfl⟩, rfl⟩
              · refine go _ ?_
                clear hnsix
                refine J_loopL (σ := Nat × Nat) [0, 2, 3, 5, 15, 17, 18, 19, 20, 21, 23] (fun t => [(25, .int .i64 ((c1 + 3 * t.1 : Nat) : Int))]) (fun t => [(bb, fwS rb da n cp d (q + 2 * t.1) t.2), (rb, rdB x s), (nb, arrZ .i16 256 sh 176), (tb, TB)])
                  (fun t => zrun d q (4 * n) = t.1 + zrun d (q + 2 * t.1) (4 * n - t.1) ∧ 16 ≤ t.2 ∧ t.2 ≤ 23 ∧ (q + 2 * t.1 + t.2) % 8 = 0 ∧ q + 2 * t.1 + t.2 ≤ 8 * n) (fun t => 4 * n - t.1) (w, k3) (.refl _) ⟨e1, e2, e3, e4, e5⟩ ?_
                clear e1 e2 e3 e4 e5 hb3 h2k3 k3 w
                rintro ⟨w, k3⟩ f ⟨e1, e2, e3, e4, e5⟩
                dsimp only at e1 e2 e3 e4 e5 ⊢
                have hb3 := bitsAt_lt d k3 (q + 2 * w)
                have h2k3 : 2 ^ k3 ≤ 2 ^ 23 := Nat.pow_le_pow_right (by omega) e3
                refine go _ ?_
                refine J_condP rfl (fun hone => ?_) (fun hnone => ?_)
                · have hzr : zrun d (q + 2 * w) (4 * n - w) = 1 + zrun d (q + 2 * w + 2) (4 * n - w - 1) := zrun_one (by
                    rw [← bitsAt_mod d (q + 2 * w) (by omega : 2 ≤ k3)]
                    show _ % 4 = 3
                    omega) (by omega)
                  clear hone
                  refine go _ ?_
                  have hblk : (((fwS rb da n cp d (q + 2 * w) k3).st 3 (.int .u32 (bitsAt d (q + 2 * w) k3 / 2 ^ 2 : Nat))).st 4 (.int .u32 (k3 - 2 : Nat))  |> Blk.obj) = (fwS rb da n cp d (q + 2 * (w + 1)) (k3 - 2)).obj := by
                    refine (fw_34 rb da n cp _ _ _ _ _).trans ?_
                    rw [bitsAt_div d _ (by omega : 2 ≤ k3), show (q + 2 * w + k3) / 8 = (q + 2 * (w + 1) + (k3 - 2)) / 8 by omega, show q + 2 * w + 2 = q + 2 * (w + 1) by omega]
                    rfl
                  refine RO_eqv (.cons hblk (.refl _)) (fun _ h => J_eqv (.cons hblk (.refl _)) h) ?_
                  refine ro_callT (more_t S bb rb x s da n cp hd hv hn (q + 2 * (w + 1)) (k3 - 2) (by omega) (by omega) (by omega)) ?_
                  rintro v m (⟨h16', rfl, k4, d1, d2, d3, d4, rfl⟩ | ⟨h16', ⟨b', rfl⟩, B', rfl⟩)
                  · refine go _ ?_
                    refine ⟨(w + 1, k4), by dsimp only; omega, ⟨by dsimp only; rw [e1, hzr, show 4 * n - w - 1 = 4 * n - (w + 1) by omega, show q + 2 * w + 2 = q + 2 * (w + 1) by omega]; omega, d1, d2, d3, d4⟩, ⟨by show Value.int .i64 _ = Value.int .i64 _; congr 1, rfl, rfl, rfl, rfl, rfl, rfl, rfl, rfl, rfl, rfl, rfl, trivial⟩, .refl _⟩
                  · have hEn : E = none := by
                      rw [← hres]
                      unfold FseS.res fseZ
                      dsimp only
                      rw [if_pos rfl, if_neg (by omega), if_pos (by omega)]
                    subst hEn
                    refine go _ ?_
                    refine J_ret ?_
                    exact ends_retS [12, 13, 14] (post := [(rb, rdB x s), (tb, TB)]) ⟨_, rfl, ⟨b', rfl⟩, rfl⟩
                · have hzr : zrun d q (4 * n) = w := by
                    rw [e1, zrun_none (by
                      rw [← bitsAt_mod d (q + 2 * w) (by omega : 2 ≤ k3)]
                      show _ % 4 ≠ 3
                      omega), Nat.add_zero]
                  clear e1 hnone
                  refine go _ ?_
                  refine ro_callT (val_t (d := d) bb rb da n cp (q + 2 * w) k3 2 (by omega) e3 e4 (by omega)) ?_
                  rintro v m ⟨rfl, rfl⟩
                  have hb2 := bitsAt_lt d 2 (q + 2 * w)
                  obtain ⟨c2, hc2⟩ : ∃ c2, c2 = c1 + 3 * w + bitsAt d (q + 2 * w) 2 := ⟨_, rfl⟩
                  refine go _ ?_
                  rw [← hc2]
                  refine J_condP rfl (fun hbig => ?_) (fun hsm => ?_)
                  · have hEn : E = none := by
                      rw [← hres]
                      unfold FseS.res fseZ
                      dsimp only
                      rw [if_pos rfl, hzr, if_neg (by omega), if_neg (by omega), if_pos (by omega)]
                    subst hEn
                    refine go _ ?_
                    refine RO_eqv (.refl _) (fun _ h => J_eqv (.refl _) h) ?_
                    refine ro_callT (fwErrS_t (d := d) S bb rb x s da n cp (q + 2 * w + 2) (k3 - 2) (by omega) _) ?_
                    rintro v m ⟨⟨b', rfl⟩, rfl⟩
                    refine go _ ?_
                    refine J_ret ?_
                    exact ends_retS [12, 13, 14] (post := [(rb, rdB x s), (tb, TB)]) ⟨_, rfl, ⟨b', rfl⟩, rfl⟩
                  · refine go _ ?_
                    refine J_loopL (σ := Nat) [0, 2, 3, 5, 15, 17, 18, 19, 20, 23, 25] (fun c => [(21, .int .i64 (c : Nat))]) (fun _ => [(bb, fwS rb da n cp d (q + 2 * w + 2) (k3 - 2)), (rb, rdB x s), (nb, arrZ .i16 256 sh 176), (tb, TB)])
                      (fun c => c1 ≤ c ∧ c ≤ c2) (fun c => c2 - c) c1 (.refl _) ⟨Nat.le_refl _, by omega⟩ ?_
                    rintro sy f ⟨g1, g2⟩
                    refine go _ ?_
                    refine J_condP rfl (fun hl2 => ?_) (fun hg2 => ?_)
                    · refine go _ ?_
                      refine ro_storeI (v := .int .i16 0) rfl rfl rfl rfl (.there (.there .here)) (by show _ < 256; omega) rfl hex ?_
                      refine go _ ?_
                      refine ⟨sy + 1, by omega, ⟨by omega, by omega⟩, ⟨rfl, rfl, rfl, rfl, rfl, rfl, rfl, rfl, rfl, rfl, rfl, rfl, trivial⟩, .skip (.skip (.cons ?_ (.refl _)))⟩
                      refine obj_congr fun i _ => ?_
                      show upd (fun i => Value.int .i16 (sh i)) (0 + sy) (.int .i16 0) i = Value.int .i16 (sh i)
                      rw [Nat.zero_add]
                      by_cases he : i = sy
                      · rw [he, upd_same, i7 sy g1]
                      · rw [upd_other _ _ _ _ he]
                    · have hsy : sy = c2 := by omega
                      subst hsy
                      refine go _ ?_
                      refine ⟨⟨false, k, q + 2 * w + 2, k3 - 2, left, sh, sy⟩, by dsimp only; rw [if_pos rfl, if_neg (by decide)]; omega, ⟨⟨by dsimp only; omega, by dsimp only; omega, by dsimp only; omega, i4, by dsimp only; omega, by dsimp only; omega, fun i hi => i7 i (by have hi : sy ≤ i := hi; omega), i8, fun h => absurd (show false = true from h) (by decide)⟩, ?_⟩, ⟨rfl, rfl, rfl, rfl, rfl, rfl, rfl, rfl, rfl, rfl, rfl, rfl, trivial⟩, .skip (.swap _ _ _)⟩
                      rw [← hres]
                      unfold FseS.res fseZ
                      dsimp only
                      rw [if_neg (by decide), if_pos rfl, hzr, if_neg (by omega), if_neg (by omega), if_neg (by omega), ← hc2]
            · have hz' : z = false := hz
              subst hz'
              have hl1 : left ≠ 0 := by omega
              have hlb := Nat.log2_self_le (n := left + 1) (by omega)
              have hlu := Nat.lt_log2_self (n := left + 1)
              have hl9 := log2_small (a := left + 1) (by omega) (by omega)
              have hl1' := log2_pos (a := left + 1) (by omega)
              obtain ⟨v1, v2, v3⟩ := fval_le d q (most := left + 1) (by omega)
              obtain ⟨b, hb⟩ : ∃ b, b = Nat.log2 (left + 1) := ⟨_, rfl⟩
              rw [← hb] at hlb hlu hl9 hl1' v2 v3
              have hp9b : 2 ^ b ≤ 2 ^ 9 := Nat.pow_le_pow_right (by omega) hl9
              have hlu2 : left + 1 < 2 * 2 ^ b := by rw [Nat.pow_succ] at hlu; omega
              have hbk := bitsAt_lt d k2 q
              have h2k : 2 ^ k2 ≤ 2 ^ 23 := Nat.pow_le_pow_right (by omega) b2
              rw [← hb]
              refine go _ ?_
              rw [Nat.and_two_pow_sub_one_eq_mod, bitsAt_mod d q (by omega : b ≤ k2)]
              have hbb := bitsAt_lt d b q
              obtain ⟨⟨r1, r2⟩, hr⟩ : ∃ r : Nat × Nat, fval d q (left + 1) = r := ⟨_, rfl⟩
              rw [hr] at v1 v2 v3
              dsimp only at v1 v2 v3
              have hr' := hr
              unfold fval at hr'
              rw [← hb] at hr'
              dsimp only at hr'
              rw [Nat.add_sub_cancel, Nat.pow_succ, Nat.mul_comm (2 ^ b) 2] at hr'
              refine go _ ?_
              refine J_join [0, 2, 3, 5, 15, 17, 18, 19, 20, 21, 23] [(29, .int .i64 (r1 : Nat))] [(bb, fwS rb da n cp d (q + r2) (k2 - r2)), (rb, rdB x s), (nb, arrZ .i16 256 sh 176), (tb, TB)] ?h1 ?h2
              case h1 =>
                refine J_condP rfl (fun hlt => ?_) (fun hge => ?_)
                · rw [if_pos (by omega)] at hr'
                  obtain ⟨rfl, rfl⟩ := Prod.mk.inj hr'
                  refine go _ ?_
                  rw [Nat.and_two_pow_sub_one_eq_mod, bitsAt_mod d q (by omega : b ≤ k2)]
                  refine go _ ?_
                  refine joined (.cons ?_ (.refl _))
                  refine (fw_34 rb da n cp _ _ _ _ _).trans ?_
                  rw [Nat.add_sub_cancel]
                  rw [bitsAt_div d q (by omega : b ≤ k2), show (q + k2) / 8 = (q + b + (k2 - b)) / 8 by omega]
                  rfl
                · rw [if_neg (by omega)] at hr'
                  obtain ⟨h1e, rfl⟩ := Prod.mk.inj hr'
                  have hbb1 := bitsAt_lt d (b + 1) q
                  rw [Nat.pow_succ] at hbb1
                  refine go _ ?_
                  rw [show 2 * 2 ^ b - 1 = 2 ^ (b + 1) - 1 by rw [Nat.pow_succ]; omega, Nat.and_two_pow_sub_one_eq_mod, bitsAt_mod d q (by omega : b + 1 ≤ k2)]
                  refine go _ ?_
                  refine J_joinK [0, 2, 3, 5, 15, 17, 18, 19, 20, 21, 23] [(29, .int .i64 (r1 : Nat))] ?_ ?_
                  · refine J_condP rfl (fun hge2 => ?_) (fun hlt2 => ?_)
                    · rw [if_pos (by omega)] at h1e
                      refine go _ ?_
                      refine joined (.refl _) ⟨by show Value.int .i64 _ = .int .i64 _; rw [← h1e, Nat.pow_succ, Nat.mul_comm (2 ^ b) 2], rfl, rfl, rfl, rfl, rfl, rfl, rfl, rfl, rfl, rfl, rfl, trivial⟩
                    · rw [if_neg (by omega)] at h1e
                      refine go _ ?_
                      refine joined (.refl _) ⟨by show Value.int .i64 _ = .int .i64 _; rw [← h1e], rfl, rfl, rfl, rfl, rfl, rfl, rfl, rfl, rfl, rfl, rfl, trivial⟩
                  · intro f
                    refine go _ ?_
                    refine joined (.cons ?_ (.refl _))
                    refine (fw_34 rb da n cp _ _ _ _ _).trans ?_
                    rw [bitsAt_div d q (by omega : b + 1 ≤ k2), show (q + k2) / 8 = (q + (b + 1) + (k2 - (b + 1))) / 8 by omega]
                    rfl
              case h2 =>
                intro f
                clear hr'
                obtain ⟨p, hp⟩ : ∃ p : Int, p = (r1 : Int) - 1 := ⟨_, rfl⟩
                refine go _ ?_
                rw [← hp]
                obtain ⟨l2, hl2⟩ : ∃ l2, l2 = left - p.natAbs := ⟨_, rfl⟩
                refine J_joinK [0, 2, 3, 5, 15, 17, 19, 20, 21, 23, 29] [(18, .int .i64 ((l2 + 1 : Nat) : Int))] ?_ ?_
                · refine J_condP rfl (fun hp0 => ?_) (fun hp1 => ?_)
                  · refine go _ ?_
                    refine joined (.refl _) ⟨by show Value.int .i64 _ = .int .i64 _; congr 1; omega, rfl, rfl, rfl, rfl, rfl, rfl, rfl, rfl, rfl, rfl, rfl, trivial⟩
                  · refine go _ ?_
                    refine joined (.refl _) ⟨by show Value.int .i64 _ = .int .i64 _; congr 1; omega, rfl, rfl, rfl, rfl, rfl, rfl, rfl, rfl, rfl, rfl, rfl, trivial⟩
                · intro f
                  refine go _ ?_
                  refine J_condP rfl (fun hbad => absurd hbad (by omega)) (fun _ => ?_)
                  refine go _ ?_
                  refine ro_conv rfl rfl rfl (IntWalk.i16_in _ (by omega)) rfl ?_
                  refine go _ ?_
                  refine ro_storeI (v := .int .i16 p) rfl rfl rfl rfl (.there (.there .here)) (by show _ < 256; omega) rfl hex ?_
                  refine go _ ?_
                  have hblk : (arrZ .i16 256 sh 176 |>.st (0 + c1) (.int .i16 p) |> Blk.obj) = (arrZ .i16 256 (updI sh c1 p) 176).obj := by
                    refine obj_congr fun i _ => ?_
                    show upd (fun i => Value.int .i16 (sh i)) (0 + c1) (.int .i16 p) i = Value.int .i16 (updI sh c1 p i)
                    rw [Nat.zero_add]
                    unfold updI
                    by_cases he : i = c1
                    · rw [he, upd_same, if_pos rfl]
                    · rw [upd_other _ _ _ _ he, if_neg he]
                  refine J_eqv (.skip (.skip (.cons hblk (.refl _)))) ?_
                  refine J_loopL (σ := Nat) [0, 2, 3, 5, 15, 17, 18, 21, 22, 23] (fun b => [(19, .int .i64 ((2 ^ b : Nat) : Int)), (20, .int .i64 ((b + 1 : Nat) : Int))]) (fun _ => [(bb, fwS rb da n cp d (q + r2) (k2 - r2)), (rb, rdB x s), (nb, arrZ .i16 256 (updI sh c1 p) 176), (tb, TB)])
                    (fun b' => b' ≤ 9 ∧ l2 + 1 < 2 * 2 ^ b') (fun b => b) b (.refl _) ⟨hl9, by omega⟩ ?_
                  rintro b' f ⟨g1, g2⟩
                  have hp9b' : 2 ^ b' ≤ 2 ^ 9 := Nat.pow_le_pow_right (by omega) g1
                  refine go _ ?_
                  refine J_condP rfl (fun hlt => ?_) (fun hge => ?_)
                  · have hb0 : b' ≠ 0 := by
                      intro h
                      subst h
                      simp only [Nat.pow_zero] at hlt
                      omega
                    obtain ⟨b', rfl⟩ : ∃ b1, b' = b1 + 1 := ⟨b' - 1, by omega⟩
                    rw [Nat.pow_succ] at hlt
                    refine go _ ?_
                    refine ⟨b', by omega, ⟨by omega, by omega⟩, ⟨by show Value.int .i64 _ = .int .i64 _; rw [Nat.pow_succ, Nat.pow_one, Nat.mul_div_cancel _ (by decide)], by show Value.int .i64 _ = .int .i64 _; rw [Nat.add_sub_cancel], rfl, rfl, rfl, rfl, rfl, rfl, rfl, rfl, rfl, rfl, trivial⟩, .refl _⟩
                  · have hbl : b' = Nat.log2 (l2 + 1) := by
                      have a1 : Nat.log2 (l2 + 1) < b' + 1 := (Nat.log2_lt (by omega)).2 (by rw [Nat.pow_succ]; omega)
                      have a2 : b' ≤ Nat.log2 (l2 + 1) := (Nat.le_log2 (by omega)).2 (by omega)
                      omega
                    subst hbl
                    obtain ⟨k, rfl⟩ : ∃ k', k = k' + 1 := ⟨k - 1, by omega⟩
                    have hnext := FseS.next (d := d) (k := k) (h := k2 - r2) (sh := sh) hr hl1 hcm' h16
                    refine go _ ?_
                    refine ⟨⟨decide (p = 0), k, q + r2, k2 - r2, l2, updI sh c1 p, c1 + 1⟩, by dsimp only; rw [if_neg (by decide : ¬ (false = true))]; split <;> omega, ⟨⟨by dsimp only; omega, by dsimp only; omega, by dsimp only; omega, by dsimp only; omega, by dsimp only; omega, by dsimp only; omega, fun i hi => ?_, fun i => ?_, fun h => ?_⟩, ?_⟩, ⟨rfl, rfl, rfl, rfl, rfl, rfl, rfl, rfl, rfl, rfl, rfl, rfl, trivial⟩, .skip (.swap _ _ _)⟩
                    · have hi : c1 + 1 ≤ i := hi
                      show updI sh c1 p i = 0
                      unfold updI
                      rw [if_neg (by omega)]; exact i7 i (by omega)
                    · show -1 ≤ updI sh c1 p i ∧ updI sh c1 p i ≤ 512
                      unfold updI
                      split
                      · exact ⟨by omega, by omega⟩
                      · exact i8 i
                    · have h : decide (p = 0) = true := h
                      have h := of_decide_eq_true h
                      show l2 ≠ 0
                      omega
                    · rw [← hres, hl2, hp]
                      unfold FseS.res at hnext ⊢
                      dsimp only at hnext ⊢
                      rw [← hnext]
                      rfl
          · have hEn : E = none := by
              rw [← hres]
              unfold FseS.res
              dsimp only
              cases z with
              | true => rw [if_pos rfl]; unfold fseZ; rw [if_neg (by omega), if_pos (by omega)]
              | false =>
                rw [if_neg (by decide)]
                obtain ⟨k, rfl⟩ : ∃ k', k = k' + 1 := ⟨k - 1, by omega⟩
                unfold fseLoop; rw [if_neg (by omega), if_neg (by omega)]; dsimp only; rw [if_pos (by simp; omega)]
            subst hEn
            refine go _ ?_
            refine J_ret ?_
            exact ends_retS [12, 13, 14] (post := [(rb, rdB x s), (tb, TB)]) ⟨_, rfl, ⟨b', rfl⟩, rfl⟩
        · have hEn : E = none := by
            rw [← hres]
            unfold FseS.res
            dsimp only
            cases z with
            | true => rw [if_pos rfl]; unfold fseZ; rw [if_pos (by omega)]
            | false =>
              rw [if_neg (by decide)]
              obtain ⟨k, rfl⟩ : ∃ k', k = k' + 1 := ⟨k - 1, by omega⟩
              unfold fseLoop; rw [if_neg (by omega), if_pos (by omega)]
          subst hEn
          refine go _ ?_
          refine J_condP rfl (fun hne => ?_) (fun heq => absurd heq (by omega))
          refine go _ ?_
          refine ro_callT (fwErrS_t (d := d) S bb rb x s da n cp q h (by omega) _) ?_
          rintro v m ⟨⟨b', rfl⟩, rfl⟩
          refine go _ ?_
          refine J_ret ?_
          exact ends_retS [12, 13, 14] (post := [(rb, rdB x s), (tb, TB)]) ⟨_, rfl, ⟨b', rfl⟩, rfl⟩
      · have hz : z = false := by cases z with
          | true => exact absurd (i9 rfl) (by omega)
          | false => rfl
        subst hz
        have hl0 : left = 0 := by omega
        subst hl0
        have hEs : E = some (sh, c1, q) := by
          rw [← hres]
          unfold FseS.res
          dsimp only
          rw [if_neg (by decide)]
          obtain ⟨k, rfl⟩ : ∃ k', k = k' + 1 := ⟨k - 1, by omega⟩
          unfold fseLoop; rw [if_pos rfl]
        obtain ⟨f1, f2, f3, f4, _, _⟩ := fseLoop_ok (hE.symm.trans hEs) (by omega) (Nat.zero_le _) (fun _ _ => rfl) (fun _ => by show (-1 : Int) ≤ 0; decide)
        subst hEs
        have hFl : Fills sh (mx + 1) (2 ^ log) := Fills.zeros (c := c1) ⟨SizeOk.of_log h5 (by omega), fun s _ => f4 s, by rw [f1]; show 0 + 0 + 2 ^ log = _; omega⟩ f2 f3
        refine go _ ?_
        refine J_condP rfl (fun hne => absurd hne (by simp)) (fun _ => ?_)
        refine go _ ?_
        refine J_loopL (σ := Nat) [] (fun sy => [(0, .pointer (some ⟨rb, 0, none⟩)), (2, .int .i64 (off : Nat)), (3, .int .i64 (mx : Nat)), (5, .slice (some ⟨tb, 0, none⟩) tl tc), (15, .pointer (some ⟨bb, 0, none⟩)), (17, .int .i64 (log : Nat)), (21, .int .i64 (sy : Nat)), (23, .pointer (some ⟨nb, 0, none⟩))])
          (fun _ => [(bb, fwS rb da n cp d q h), (nb, arrZ .i16 256 sh 176), (rb, rdB x s), (tb, TB)]) (fun sy => c1 ≤ sy ∧ sy ≤ mx + 1) (fun sy => mx + 1 - sy) c1 (.refl _) ⟨Nat.le_refl _, i5⟩ ?_
        rintro sy f ⟨g1, g2⟩
        refine go _ ?_
        refine J_condP rfl (fun hle2 => ?_) (fun hgt2 => ?_)
        · refine go _ ?_
          refine ro_storeI (v := .int .i16 0) rfl rfl rfl rfl (.there .here) (by show _ < 256; omega) rfl hex ?_
          refine go _ ?_
          refine ⟨sy + 1, by omega, ⟨by omega, by omega⟩, ⟨rfl, rfl, rfl, rfl, rfl, rfl, rfl, rfl, trivial⟩, .skip (.cons ?_ (.refl _))⟩
          refine obj_congr fun i _ => ?_
          show upd (fun i => Value.int .i16 (sh i)) (0 + sy) (.int .i16 0) i = Value.int .i16 (sh i)
          rw [Nat.zero_add]
          by_cases he : i = sy
          · rw [he, upd_same, i7 sy g1]
          · rw [upd_other _ _ _ _ he]
        · refine go _ ?_
          refine ro_callT (backup_t (d := d) bb rb da n cp q h i1 i2 (by omega)) ?_
          rintro v m ⟨B', k', rfl⟩
          refine go _ ?_
          refine ro_callT (buildFSE_t (G := G) rb nb tb (off : Nat) sh (mx + 1) log tl tc TB hFl (by omega) h5 (by omega) (by omega) htc hTB hfr) ?_
          rintro v m ⟨rfl, g, rfl, q1, q2⟩
          refine go _ ?_
          refine J_ret ?_
          exact ends_retS [12, 13, 14] (post := [(rb, rdB x s), (tb, ⟨TB.n, g, TB.T, (0, 0)⟩)]) ⟨rfl, g, rfl, q1, q2⟩
  · rw [if_pos (by simp; omega)]
    refine go _ ?_
    refine J_ret ?_
    exact ends_retS [12, 13, 14] (post := [(rb, rdB x s), (tb, TB)]) (junk := [(bb, B')]) ⟨_, rfl, ⟨b', rfl⟩, rfl⟩ rfl (.of_perm (List.perm_append_comm (l₁ := [_]) (l₂ := [_, _])))
end Go.Proofs.YtogmacnlpclgkaaDoor

/-! PLAIN LAWS 4: Huffman trees: weights, places. -/
namespace Go.Proofs.YtogmacnlpclgkaaDoor
open Go Go.Eng Go.Pz

/-! Weights, by an FSE table with two states -/
def hufLoop (sym bt bs : Nat → Nat) (d : Nat → Nat) (start : Nat) : Nat → Nat → Nat → Nat → (Nat → Nat) → Nat → Option ((Nat → Nat) × Nat)
  | 0, _, _, _, _, _ => none
  | k + 1, a, s1, s2, w, c =>
    if ¬ rvC start a (bt s1) then (if 254 ≤ c then none else some (updN (updN w c (sym s1)) (c + 1) (sym s2), c + 2))
    else if 255 ≤ c then none
    else hufLoop sym bt bs d start k (a - bt s1) s2 (bs s1 + rvV d a (bt s1)) (updN w c (sym s1)) (c + 1)

def hufFse (d : Nat → Nat) (n off hdr : Nat) : Option ((Nat → Nat) × Nat) :=
  match probs true d n 6 255 (8 * off) with
  | none => none
  | some (log, sh, _, q) =>
    if n < off + hdr then none
    else if d (off + hdr - 1) = 0 then none
    else
      let a := 8 * (off + hdr - 1) + Nat.log2 (d (off + hdr - 1))
      let st := (q + 7) / 8
      if ¬ rvC st a log then none
      else if ¬ rvC st (a - log) log then none
      else hufLoop (symTab sh 256 (2 ^ log)) (cellBits sh 256 log) (cellBase sh 256 log) d st 256 (a - log - log) (rvV d a log) (rvV d (a - log) log) (fun _ => 0) 0

def hufNib (d : Nat → Nat) (o : Nat) (c : Nat) (i : Nat) : Nat := if i < 2 * ((c + 1) / 2) then (if i % 2 = 0 then d (o + i / 2) / 16 else d (o + i / 2) % 16) else 0
/-- The weights, how many, the place behind. -/
def hufW (d : Nat → Nat) (n off : Nat) : Option ((Nat → Nat) × Nat × Nat) :=
  if n ≤ off then none
  else if d off < 128 then (hufFse d n (off + 1) (d off)).map fun r => (r.1, r.2, off + 1 + d off)
  else if n ≤ off + 1 + (d off - 127 + 1) / 2 then none
  else some (hufNib d (off + 1) (d off - 127), d off - 127, off + 1 + (d off - 127 + 1) / 2)

/-! Places -/
/-- How many of the first n weigh v. -/
def hcnt (w : Nat → Nat) : Nat → Nat → Nat
  | 0, _ => 0
  | n + 1, v => hcnt w n v + if w n = v then 1 else 0
/-- The room of those of the first n that weigh from 1 to k. -/
def hbase (w : Nat → Nat) : Nat → Nat → Nat
  | 0, _ => 0
  | n + 1, k => hbase w n k + if w n = 0 ∨ k < w n then 0 else 2 ^ (w n - 1)
theorem hbase_zero (w : Nat → Nat) : ∀ n, hbase w n 0 = 0
  | 0 => rfl
  | n + 1 => by rw [hbase, hbase_zero w n, if_pos (by omega)]
theorem hbase_succ (w : Nat → Nat) (k : Nat) : ∀ n, hbase w n (k + 1) = hbase w n k + hcnt w n (k + 1) * 2 ^ k
  | 0 => by simp [hbase, hcnt]
  | n + 1 => by
    rw [hbase, hbase, hcnt, hbase_succ w k n, Nat.add_mul]
    by_cases h0 : w n = 0
    · rw [if_pos (.inl h0), if_pos (.inl h0), if_neg (by omega)]; omega
    · by_cases h1 : w n = k + 1
      · rw [if_neg (by omega), if_pos (by omega), if_pos h1, h1, Nat.add_sub_cancel]; omega
      · by_cases h2 : k < w n
        · rw [if_pos (by omega), if_pos (by omega), if_neg h1]; omega
        · rw [if_neg (by omega), if_neg (by omega), if_neg h1]; omega
theorem hbase_all (w : Nat → Nat) {k k' : Nat} : ∀ n, (∀ i, i < n → w i ≤ k ∧ w i ≤ k') → hbase w n k = hbase w n k'
  | 0, _ => rfl
  | n + 1, h => by
    rw [hbase, hbase, hbase_all w n fun i hi => h i (by omega)]
    have := h n (by omega)
    by_cases h0 : w n = 0
    · rw [if_pos (.inl h0), if_pos (.inl h0)]
    · rw [if_neg (by omega), if_neg (by omega)]
theorem hbase_mono (w : Nat → Nat) {k k' : Nat} (h : k ≤ k') : ∀ n, hbase w n k ≤ hbase w n k'
  | 0 => Nat.le_refl _
  | n + 1 => by
    rw [hbase, hbase]
    have := hbase_mono w h n
    generalize 2 ^ (w n - 1) = z
    split <;> split <;> omega
theorem hbase_ge (w : Nat → Nat) {k i : Nat} (h0 : w i ≠ 0) (hk : w i ≤ k) : ∀ n, i < n → 2 ^ (w i - 1) ≤ hbase w n k
  | 0, h => absurd h (Nat.not_lt_zero _)
  | n + 1, h => by
    rw [hbase]
    by_cases he : i = n
    · subst he; rw [if_neg (by omega)]; omega
    · have := hbase_ge w h0 hk n (by omega); omega
theorem hbase_congr {w w' : Nat → Nat} {k : Nat} : ∀ n, (∀ i, i < n → w i = w' i) → hbase w n k = hbase w' n k
  | 0, _ => rfl
  | n + 1, h => by rw [hbase, hbase, hbase_congr n fun i hi => h i (by omega), h n (by omega)]
theorem hcnt_congr {w w' : Nat → Nat} {v : Nat} : ∀ n, (∀ i, i < n → w i = w' i) → hcnt w n v = hcnt w' n v
  | 0, _ => rfl
  | n + 1, h => by rw [hcnt, hcnt, hcnt_congr n fun i hi => h i (by omega), h n (by omega)]
theorem hcnt_le (w : Nat → Nat) (v : Nat) : ∀ n, hcnt w n v ≤ n
  | 0 => Nat.le_refl _
  | n + 1 => by rw [hcnt]; have := hcnt_le w v n; split <;> omega
theorem hcnt_mono (w : Nat → Nat) (v : Nat) {i : Nat} : ∀ n, i ≤ n → hcnt w i v ≤ hcnt w n v
  | 0, h => by rw [show i = 0 by omega]; exact Nat.le_refl _
  | n + 1, h => by
    by_cases he : i = n + 1
    · rw [he]; exact Nat.le_refl _
    · rw [hcnt]; have := hcnt_mono w v (i := i) n (by omega); omega
theorem hbase_le (w : Nat → Nat) (k : Nat) : ∀ n, hbase w n k ≤ n * 2 ^ (k - 1)
  | 0 => Nat.zero_le _
  | n + 1 => by
    rw [hbase, Nat.add_mul, Nat.one_mul]
    have := hbase_le w k n
    split
    · have : 0 < 2 ^ (k - 1) := Nat.two_pow_pos _
      omega
    · have : 2 ^ (w n - 1) ≤ 2 ^ (k - 1) := Nat.pow_le_pow_right (by omega) (by omega)
      omega

/-- Where the room of number i begins. -/
def hplace (w : Nat → Nat) (n i : Nat) : Nat := hbase w n (w i - 1) + hcnt w i (w i) * 2 ^ (w i - 1)
theorem hplace_le (w : Nat → Nat) {n i k : Nat} (hi : i < n) (h0 : w i ≠ 0) (hk : w i ≤ k) : hplace w n i + 2 ^ (w i - 1) ≤ hbase w n k := by
  obtain ⟨v, hv⟩ : ∃ v, w i = v + 1 := ⟨w i - 1, by omega⟩
  have h1 := hbase_succ w v n
  have h2 := hcnt_mono w (v + 1) (i := i + 1) n hi
  rw [hcnt, if_pos hv] at h2
  have h3 := hbase_mono w (k := v + 1) (k' := k) (by omega) n
  unfold hplace
  rw [hv, Nat.add_sub_cancel]
  have h4 : (hcnt w i (v + 1) + 1) * 2 ^ v ≤ hcnt w n (v + 1) * 2 ^ v := Nat.mul_le_mul_right _ h2
  rw [Nat.add_mul, Nat.one_mul] at h4
  omega

/-- All weights (the last is what is left), and how many bits the longest code has. -/
def hufT (w : Nat → Nat) (c : Nat) : Option ((Nat → Nat) × Nat) :=
  if ((List.range c).any fun i => decide (12 < w i)) = true then none
  else
    let mask := hbase w c 12
    if mask = 0 then none
    else
      let tb := Nat.log2 mask + 1
      if 11 < tb then none
      else
        let left := 2 ^ tb - mask
        let hb := Nat.log2 left
        if 2 ^ hb ≠ left then none
        else if 256 ≤ c then none
        else
          let w' := updN w c (hb + 1)
          if hcnt w' (c + 1) 1 < 2 ∨ hcnt w' (c + 1) 1 % 2 ≠ 0 then none
          else some (w', tb)
/-- The table, as the first i have written it. -/
def hufTab (w : Nat → Nat) (n tb : Nat) (old : Nat → Nat) : Nat → Nat → Nat
  | 0 => old
  | i + 1 => if w i = 0 then hufTab w n tb old i else fun p => if hplace w n i ≤ p ∧ p < hplace w n i + 2 ^ (w i - 1) then i * 256 + (tb + 1 - w i) else hufTab w n tb old i p
/-- What readHuff does to a table; how many bits; the place behind. -/
def hufRead (d : Nat → Nat) (n off : Nat) (old : Nat → Nat) : Option ((Nat → Nat) × Nat × Nat) :=
  match hufW d n off with
  | none => none
  | some (w, c, q) => (hufT w c).map fun r => (hufTab r.1 (c + 1) r.2 old (c + 1), r.2, q)

theorem hufT_ok {w : Nat → Nat} {c : Nat} {w' : Nat → Nat} {tb : Nat} (h : hufT w c = some (w', tb)) : c < 256 ∧ 1 ≤ tb ∧ tb ≤ 11 ∧ (∀ i, i < c + 1 → w' i ≤ tb) ∧ hbase w' (c + 1) tb = 2 ^ tb ∧ ∃ hb, w' = updN w c (hb + 1) := by
  unfold hufT at h
  split at h
  · cases h
  rename_i h12
  dsimp only at h
  split at h
  · cases h
  rename_i hm
  split at h
  · cases h
  rename_i h11
  split at h
  · cases h
  rename_i hl
  split at h
  · cases h
  rename_i hc
  split at h
  · cases h
  obtain ⟨rfl, rfl⟩ := Prod.mk.inj (Option.some.inj h)
  have hl := Decidable.not_not.1 hl
  have hmlt := Nat.lt_log2_self (n := hbase w c 12)
  have hlp : 2 ^ Nat.log2 (2 ^ (Nat.log2 (hbase w c 12) + 1) - hbase w c 12) ≠ 0 := by have := Nat.two_pow_pos (Nat.log2 (2 ^ (Nat.log2 (hbase w c 12) + 1) - hbase w c 12)); omega
  generalize ht : Nat.log2 (hbase w c 12) + 1 = tb at *
  generalize hbe : Nat.log2 (2 ^ tb - hbase w c 12) = hb at *
  have h12' : ∀ i, i < c → w i ≤ 12 := fun i hi => by
    rcases Nat.lt_or_ge 12 (w i) with h | h
    · exact absurd (List.any_eq_true.2 ⟨i, List.mem_range.2 hi, decide_eq_true h⟩) h12
    · exact h
  have hwt : ∀ i, i < c → w i ≤ tb := fun i hi => by
    by_cases h0 : w i = 0
    · omega
    · have h1 := hbase_ge w h0 (h12' i hi) c hi
      have h2 : 2 ^ (w i - 1) < 2 ^ tb := by omega
      have := (Nat.pow_lt_pow_iff_right (a := 2) (by omega)).1 h2
      omega
  have hbt : hb + 1 ≤ tb := by
    have h2 : 2 ^ hb < 2 ^ tb := by omega
    have := (Nat.pow_lt_pow_iff_right (a := 2) (by omega)).1 h2
    omega
  refine ⟨by omega, by omega, by omega, fun i hi => ?_, ?_, hb, rfl⟩
  · by_cases he : i = c
    · rw [he, updN_same]; exact hbt
    · rw [updN_other _ _ _ _ he]; exact hwt i (by omega)
  · rw [hbase, hbase_congr (w' := w) c (fun i hi => updN_other _ _ _ _ (by omega)), updN_same, if_neg (by omega), Nat.add_sub_cancel, hbase_all w (k := tb) (k' := 12) c (fun i hi => ⟨hwt i hi, h12' i hi⟩)]
    omega
end Go.Proofs.YtogmacnlpclgkaaDoor
