/-
  TEXTS MERGED: C6.
-/
import Derived.Test.YtogmacnlpclgkaaDoorK24
import Derived.Test.YtogmacnlpclgkaaDoorK12
/-! COMPRESSED BLOCKS 6: weights of a Huffman tree by FSE. -/
namespace Go.Proofs.YtogmacnlpclgkaaDoor
open Go Go.Eng Go.Pz
attribute [local irreducible] RO J Trip Quiet
set_option maxRecDepth 20000
variable {G : Mem} {d : Nat → Nat}

/-- A value, of bits that are at hand. -/
theorem rval2_t (bb rb : Nat) (x : Int) (s : RS) (da : Option Addr) (n cp : Nat) (hd : ∀ i, d i < 256) (hv : View G da n cp d) (hn : n ≤ 2 ^ 20) (a k B start b : Nat) (hR : RvOk d a k B) (hk : (a - k) / 8 ≤ n) (ha : a ≤ 8 * n + 7) (hst : start < 2 ^ 32) (hb : b ≤ 31) (hbk : b ≤ k) (hkb : k ≤ b + 7) :
    Trip Tryd.prog G 67 #[.pointer (some ⟨bb, 0, none⟩), .int .u8 (b : Nat)] [(bb, rvB rb da n cp ((a - k) / 8) start B k), (rb, rdB x s)] (fun v m =>
      v = .tuple #[.int .u32 (rvV d a b : Nat), .nilIface] ∧ b ≤ a ∧ ∃ B', RvOk d (a - b) ((a - b) % 8) B' ∧ (a - b) / 8 ≤ n ∧ m = [(bb, rvS rb da n cp start (a - b) B'), (rb, rdB x s)]) := by
  refine Trip_of Tryd.func67 rfl (by show 2 ≤ _; decide) (args := [.pointer (some ⟨bb, 0, none⟩), .int .u8 (b : Nat)]) fun c h0 hex => ?_
  refine go _ ?_
  refine ro_callT (fetch_t (G := G) bb rb da n cp hd hv hn a k B start b hR ha hk hst (by omega)) ?_
  rintro v m (⟨h1, rfl, k', B', h2, h3, h4, h6, rfl⟩ | ⟨h1, rfl, off, B', k', h2, rfl⟩)
  · have hal := h4.al
    have hle := h4.le
    have h2b : 2 ^ b ≤ 2 ^ 31 := Nat.pow_le_pow_right (by omega) hb
    have h1b : 1 ≤ 2 ^ b := Nat.one_le_two_pow
    have hlt := h4.lt
    have hkb : k' ≤ b + 7 := by omega
    have hval := rvV_of h4 h2 hkb
    have hdv : B' / 2 ^ (k' - b) ≤ B' := Nat.div_le_self _ _
    have hkk : k' - b = (a - b) % 8 := by omega
    refine go _ ?_
    refine J_ret ?_
    refine ends_retS [4, 5] (post := [(bb, rvS rb da n cp start (a - b) B'), (rb, rdB x s)]) (junk := []) ⟨?_, by omega, B', by rw [← hkk]; exact h4.less h2, by omega, rfl⟩ rfl (.cons ?_ (.refl _))
    · show Value.tuple #[.int .u32 ((B' / 2 ^ (k' - b) &&& 1 * 2 ^ b - 1 : Nat) : Int), .nilIface] = .tuple #[.int .u32 ((rvV d a b : Nat) : Int), .nilIface]
      rw [Nat.one_mul, Nat.and_two_pow_sub_one_eq_mod, hval]
    · refine (rv_5 rb da n cp _ _ _ _ _).trans ?_
      unfold rvS
      rw [hkk, show (a - k') / 8 = (a - b) / 8 by omega]
  · exact absurd (.inl hbk) h1

theorem RvOk.init (hd : ∀ i, d i < 256) {o : Nat} (h0 : d o ≠ 0) : RvOk d (8 * o + Nat.log2 (d o)) ((8 * o + Nat.log2 (d o)) % 8) (d o) ∧ (8 * o + Nat.log2 (d o)) % 8 = Nat.log2 (d o) ∧ (8 * o + Nat.log2 (d o)) / 8 = o := by
  have h1 := hd o
  have h2 : Nat.log2 (d o) < 8 := (Nat.log2_lt h0).2 h1
  have h3 : (8 * o + Nat.log2 (d o)) % 8 = Nat.log2 (d o) := by omega
  refine ⟨?_, h3, by omega⟩
  rw [h3]
  refine ⟨by omega, by omega, by omega, ?_, by omega⟩
  rw [Nat.min_eq_left (by omega), Nat.add_sub_cancel]
  have := bitsAt_byteAux d o (Nat.log2 (d o)) 0 (by omega)
  rw [Nat.add_zero, Nat.pow_zero, Nat.div_one] at this
  exact this.symm

/-- The scratch of FSE cells. -/
def FsM (fs : Value) (m : Mem) : Prop := (fs = .slice none 0 0 ∧ m = []) ∨ ∃ b g l c k, fs = .slice (some ⟨b, 0, none⟩) l c ∧ l ≤ c ∧ c * 3 ≤ k ∧ m = [(b, ⟨k, g, 157, (0, 0)⟩)]

theorem and_one_mod (x : Nat) : x &&& 1 = x % 2 := Nat.and_one_is_mod x

/-- The marks, as the first i of the loop that makes places have turned them. -/
def hmark (w : Nat → Nat) (n k : Nat) (v : Nat) : Nat := if 1 ≤ v ∧ v ≤ k then hbase w n (v - 1) else hcnt w n v

set_option maxHeartbeats 2000000 in
/-- readHuff behind the weights. -/
theorem hufK (S : Sent G) (rb wb hb : Nat) (x : Int) (s : RS) (w : Nat → Nat) (c0 q : Nat) (old : Nat → Nat) (em jk : Mem) (hw : ∀ i, w i < 256) (hc : c0 ≤ 255) (c : World) (h0 : Base) (hex : h0.ex = false) (f : Fr) (R : Value → Mem → Prop)
    (hR : ∀ v m, (match hufT w c0 with
      | some (w', b) => v = .tuple #[.int .i64 (b : Nat), .int .i64 (q : Nat), .nilIface] ∧ m = (rb, rdB x s) :: (hb, arrB .u16 2048 (hufTab w' (c0 + 1) b old (c0 + 1)) 104) :: em
      | none => ∃ e, v = .tuple #[.int .i64 0, .int .i64 0, e] ∧ ErrV S .z e ∧ m = (rb, rdB x s) :: (hb, arrB .u16 2048 old 104) :: em) → R v m) :
    J Tryd.prog G c Tryd.f70.ntmps h0 (seqDrop 7 (codeOf Tryd.f70.body)) (Eng.Ends Tryd.prog G c Tryd.f70 h0 R)
      (setL f [(0, .pointer (some ⟨rb, 0, none⟩)), (2, .int .i64 (q : Nat)), (3, .slice (some ⟨hb, 0, none⟩) 2048 2048), (12, .pointer (some ⟨wb, 0, none⟩)), (13, .int .i64 (c0 : Nat))]) ((wb, arrB .u8 256 w 163) :: (rb, rdB x s) :: (hb, arrB .u16 2048 old 104) :: (em ++ jk)) := by
  have hbad : hufT w c0 = none → ∀ e, ErrV S .z e → R (.tuple #[.int .i64 0, .int .i64 0, e]) ((rb, rdB x s) :: (hb, arrB .u16 2048 old 104) :: em) := fun h e he => hR _ _ (by rw [h]; exact ⟨e, rfl, he, rfl⟩)
  have hor : ∀ a b : Nat, b < 256 → (a * 2 ^ 8) ||| b = a * 256 + b := fun a b hb => by
    rw [Nat.or_comm, or_add' (j := 8) hb, Nat.add_comm]
  have hany : (∀ i, i < c0 → w i ≤ 12) → ¬ ((List.range c0).any fun i => decide (12 < w i)) = true := fun h h2 => by
    obtain ⟨i, hi, hi2⟩ := List.any_eq_true.1 h2
    have := h i (List.mem_range.1 hi)
    have := of_decide_eq_true hi2
    omega
  refine go _ ?_
  refine ro_alloc z165 rfl hex fun mb hmb => ?_
  refine go _ ?_
  refine J_loopL (σ := Nat × (Nat → Nat)) [] (fun t => [(0, .pointer (some ⟨rb, 0, none⟩)), (2, .int .i64 (q : Nat)), (3, .slice (some ⟨hb, 0, none⟩) 2048 2048), (12, .pointer (some ⟨wb, 0, none⟩)), (13, .int .i64 (c0 : Nat)), (26, .pointer (some ⟨mb, 0, none⟩)), (27, .int .u32 (hbase w t.1 12 : Nat)), (279, .slice (some ⟨wb, 0, none⟩) c0 256), (280, .int .i64 (c0 : Nat)), (281, .int .i64 (t.1 : Nat))])
    (fun t => (mb, arrB .u32 13 t.2 165) :: (wb, arrB .u8 256 w 163) :: (rb, rdB x s) :: (hb, arrB .u16 2048 old 104) :: (em ++ jk))
    (fun t => t.1 ≤ c0 ∧ (∀ i, i < t.1 → w i ≤ 12) ∧ ∀ v, v ≤ 12 → t.2 v = hcnt w t.1 v) (fun t => c0 - t.1) (0, fun _ => 0) (.cons (blk_tab rfl rfl rfl rfl) (.refl _)) ⟨Nat.zero_le _, fun i hi => absurd hi (Nat.not_lt_zero _), fun v _ => rfl⟩ ?_
  rintro ⟨i, y⟩ f ⟨hi, h12, hy⟩
  dsimp only at hi h12 hy ⊢
  have hbl := hbase_le w 12 i
  simp only [Nat.reduceSub, Nat.reducePow] at hbl
  refine go _ ?_
  refine J_condP rfl (fun hlt => ?_) (fun hge => ?_)
  · have hwi := hw i
    refine go _ ?_
    rw [Nat.zero_add]
    refine J_condP rfl (fun hbig => ?_) (fun hsm => ?_)
    · have hb12 : 12 < w i := by omega
      refine go _ ?_
      refine ro_callT (merr_t S rb x s _ _) ?_
      rintro v m ⟨⟨b', rfl⟩, rfl⟩
      refine go _ ?_
      refine J_ret ?_
      exact ends_retS [8, 9, 10] (post := (rb, rdB x s) :: (hb, arrB .u16 2048 old 104) :: em) (hbad (by unfold hufT; rw [if_pos (List.any_eq_true.2 ⟨i, List.mem_range.2 (by omega), decide_eq_true hb12⟩)]) _ ⟨b', rfl⟩)
    · have hcy : y (w i) = hcnt w i (w i) := hy _ (by omega)
      have hcl := hcnt_le w (w i) i
      have hp := Nat.pow_le_pow_right (n := 2) (i := w i - 1) (j := 11) (by omega) (by omega)
      have hbs : hbase w (i + 1) 12 = hbase w i 12 + if w i = 0 ∨ 12 < w i then 0 else 2 ^ (w i - 1) := rfl
      refine go _ ?_
      rw [show y (0 + w i) = hcnt w i (w i) by rw [Nat.zero_add]; exact hcy]
      refine go _ ?_
      have hyn : ∀ v, v ≤ 12 → updN y (0 + w i) (hcnt w i (w i) + 1) v = hcnt w (i + 1) v := fun v hv => by
        rw [Nat.zero_add, hcnt]
        by_cases he : v = w i
        · rw [he, updN_same, if_pos rfl]
        · rw [updN_other _ _ _ _ he, if_neg (fun h => he h.symm), Nat.add_zero]; exact hy v hv
      have h12n : ∀ j, j < i + 1 → w j ≤ 12 := fun j hj => by
        by_cases he : j = i
        · rw [he]; omega
        · exact h12 j (by omega)
      refine J_condP rfl (fun hpos => ?_) (fun hz => ?_)
      · rw [if_neg (by omega)] at hbs
        refine go _ ?_
        rw [Nat.one_mul, ← hbs]
        refine ⟨(i + 1, _), by dsimp only; omega, ⟨by dsimp only; omega, h12n, hyn⟩, ⟨rfl, rfl, rfl, rfl, rfl, rfl, rfl, rfl, rfl, rfl, trivial⟩, .refl _⟩
      · rw [if_pos (by omega)] at hbs
        have hbs2 : hbase w (i + 1) 12 = hbase w i 12 := by omega
        refine go _ ?_
        rw [← hbs2]
        refine ⟨(i + 1, _), by dsimp only; omega, ⟨by dsimp only; omega, h12n, hyn⟩, ⟨rfl, rfl, rfl, rfl, rfl, rfl, rfl, rfl, rfl, rfl, trivial⟩, .refl _⟩
  · have hic : i = c0 := by omega
    subst hic
    refine go _ ?_
    refine J_condP rfl (fun hm0 => ?_) (fun hm0 => ?_)
    · refine go _ ?_
      refine ro_callT (merr_t S rb x s _ _) ?_
      rintro v m ⟨⟨b', rfl⟩, rfl⟩
      refine go _ ?_
      refine J_ret ?_
      exact ends_retS [8, 9, 10] (post := (rb, rdB x s) :: (hb, arrB .u16 2048 old 104) :: em) (hbad (by unfold hufT; rw [if_neg (hany h12)]; dsimp only; rw [if_pos (by omega)]) _ ⟨b', rfl⟩)
    · refine go _ ?_
      refine ro_callQT (lz32_q (x := hbase w i 12) (by omega)) ?_
      have hble := blen_le (x := hbase w i 12) (k := 32) (by omega)
      refine go _ ?_
      rw [show 32 - (32 - blen (hbase w i 12)) = Nat.log2 (hbase w i 12) + 1 by rw [show blen (hbase w i 12) = Nat.log2 (hbase w i 12) + 1 from if_neg (by omega)] at *; omega]
      obtain ⟨mk, hmk⟩ : ∃ mk, mk = hbase w i 12 := ⟨_, rfl⟩
      have hml := Nat.lt_log2_self (n := hbase w i 12)
      obtain ⟨b, hb0⟩ : ∃ b, b = Nat.log2 (hbase w i 12) + 1 := ⟨_, rfl⟩
      rw [← hb0] at hml ⊢
      rw [← hmk] at hml ⊢
      have hmp : mk ≠ 0 := by omega
      refine go _ ?_
      refine J_condP rfl (fun hb11 => ?_) (fun hb11 => ?_)
      · refine go _ ?_
        refine ro_callT (merr_t S rb x s _ _) ?_
        rintro v m ⟨⟨b', rfl⟩, rfl⟩
        refine go _ ?_
        refine J_ret ?_
        exact ends_retS [8, 9, 10] (post := (rb, rdB x s) :: (hb, arrB .u16 2048 old 104) :: em) (hbad (by unfold hufT; rw [if_neg (hany h12)]; dsimp only; rw [if_neg (by omega), if_pos (by omega)]) _ ⟨b', rfl⟩)
      · have hp11 : 2 ^ b ≤ 2 ^ 11 := Nat.pow_le_pow_right (by omega) (by omega)
        refine go _ ?_
        rw [Nat.one_mul]
        refine J_condP rfl (fun h => absurd h (by omega)) (fun _ => ?_)
        refine go _ ?_
        rw [Nat.one_mul]
        refine go _ ?_
        refine J_condP rfl (fun h => absurd h (by omega)) (fun _ => ?_)
        obtain ⟨lf, hlf⟩ : ∃ lf, lf = 2 ^ b - mk := ⟨_, rfl⟩
        rw [← hlf]
        have hlf0 : lf ≠ 0 := by omega
        have hlfl : Nat.log2 lf < 12 := (Nat.log2_lt hlf0).2 (by omega)
        have hlb : blen lf = Nat.log2 lf + 1 := if_neg hlf0
        refine go _ ?_
        refine ro_callQT (lz32_q (x := lf) (by omega)) ?_
        rw [hlb]
        refine go _ ?_
        rw [show 31 - (32 - (Nat.log2 lf + 1)) = Nat.log2 lf by omega]
        obtain ⟨hg, hhg⟩ : ∃ hg, hg = Nat.log2 lf := ⟨_, rfl⟩
        rw [← hhg] at hlfl ⊢
        have hpg : 2 ^ hg ≤ 2 ^ 11 := Nat.pow_le_pow_right (by omega) (by omega)
        refine go _ ?_
        rw [Nat.one_mul]
        refine J_condP rfl (fun hne => ?_) (fun heq => ?_)
        · refine go _ ?_
          refine ro_callT (merr_t S rb x s _ _) ?_
          rintro v m ⟨⟨b', rfl⟩, rfl⟩
          refine go _ ?_
          refine J_ret ?_
          exact ends_retS [8, 9, 10] (post := (rb, rdB x s) :: (hb, arrB .u16 2048 old 104) :: em) (hbad (by unfold hufT; rw [if_neg (hany h12)]; dsimp only; rw [if_neg (by omega), ← hb0, if_neg (by omega), ← hmk, ← hlf, ← hhg, if_pos (by omega)]) _ ⟨b', rfl⟩)
        · have hlg : 2 ^ hg = lf := by omega
          refine go _ ?_
          refine J_condP rfl (fun h => absurd h (by omega)) (fun _ => ?_)
          have hyg := hy (hg + 1) (by omega)
          have hcl := hcnt_le w (hg + 1) i
          refine go _ ?_
          rw [show y (0 + (hg + 1)) = hcnt w i (hg + 1) by rw [Nat.zero_add]; exact hyg]
          obtain ⟨w', hw'⟩ : ∃ w', w' = updN w i (hg + 1) := ⟨_, rfl⟩
          have hy' : ∀ v, v ≤ 12 → updN y (0 + (hg + 1)) (hcnt w i (hg + 1) + 1) v = hcnt w' (i + 1) v := fun v hv => by
            rw [Nat.zero_add, hcnt, hw', updN_same, hcnt_congr (w' := w) i fun j hj => updN_other _ _ _ _ (by omega)]
            by_cases he : v = hg + 1
            · rw [he, updN_same, if_pos rfl]
            · rw [updN_other _ _ _ _ he, if_neg (fun h => he h.symm), Nat.add_zero]; exact hy v hv
          obtain ⟨y', hye⟩ : ∃ y', y' = updN y (0 + (hg + 1)) (hcnt w i (hg + 1) + 1) := ⟨_, rfl⟩
          rw [← hye] at hy'
          have hl1 := hcnt_le w' 1 (i + 1)
          have hT : hufT w i = if hcnt w' (i + 1) 1 < 2 ∨ hcnt w' (i + 1) 1 % 2 ≠ 0 then none else some (w', b) := by
            unfold hufT
            rw [if_neg (hany h12)]
            dsimp only
            rw [if_neg (by omega), ← hb0, if_neg (by omega), ← hmk, ← hlf, ← hhg, if_neg (by omega), if_neg (by omega), ← hw']
          refine go _ ?_
          rw [← hye, Nat.zero_add, Nat.zero_add, ← hw', hy' 1 (by omega)]
          have hend : (hcnt w' (i + 1) 1 < 2 ∨ hcnt w' (i + 1) 1 % 2 ≠ 0) → ∀ e, ErrV S .z e → R (.tuple #[.int .i64 0, .int .i64 0, e]) ((rb, rdB x s) :: (hb, arrB .u16 2048 old 104) :: em) := fun h e he => hbad (by rw [hT, if_pos h]) e he
          refine ro_splitP 364 rfl (fun hlt2 => ?_) (fun hge2 => ?_)
          · refine go _ ?_
            refine ro_callT (merr_t S rb x s _ _) ?_
            rintro v m ⟨⟨b', rfl⟩, rfl⟩
            refine go _ ?_
            refine J_ret ?_
            exact ends_retS [8, 9, 10] (post := (rb, rdB x s) :: (hb, arrB .u16 2048 old 104) :: em) (hend (.inl (by omega)) _ ⟨b', rfl⟩)
          · have hy1 := hy' 1 (by omega)
            refine go _ ?_
            rw [Nat.zero_add, hy1]
            refine go _ ?_
            refine J_condP rfl (fun hodd => ?_) (fun heven => ?_)
            · refine go _ ?_
              refine ro_callT (merr_t S rb x s _ _) ?_
              rintro v m ⟨⟨b', rfl⟩, rfl⟩
              refine go _ ?_
              refine J_ret ?_
              exact ends_retS [8, 9, 10] (post := (rb, rdB x s) :: (hb, arrB .u16 2048 old 104) :: em) (hend (.inr (by omega)) _ ⟨b', rfl⟩)
            · rw [if_neg (by omega)] at hT
              obtain ⟨t1, t2, t3, t4, t5, hg', t6⟩ := hufT_ok hT
              clear t6 hg' hend hbad hy hyg hy1 hany
              have hR' := fun m hm => hR (.tuple #[.int .i64 (b : Nat), .int .i64 (q : Nat), .nilIface]) m (by rw [hT]; exact ⟨rfl, hm⟩)
              clear hR hT
              have hym : ∀ v, v ≤ 12 → y' v = hmark w' (i + 1) 0 v := fun v hv => by unfold hmark; rw [if_neg (by omega)]; exact hy' v hv
              clear hy' hye hw' hge2 heven
              have hw8 : ∀ j, j < i + 1 → w' j ≤ 11 := fun j hj => by have := t4 j hj; omega
              refine go _ ?_
              refine J_loopL (σ := Nat × (Nat → Nat)) (vals := []) [] (fun t => [(2, .int .i64 (q : Nat)), (3, .slice (some ⟨hb, 0, none⟩) 2048 2048), (8, .int .i64 (b : Nat)), (12, .pointer (some ⟨wb, 0, none⟩)), (13, .int .i64 ((i + 1 : Nat) : Int)), (26, .pointer (some ⟨mb, 0, none⟩)), (32, .int .u32 (hbase w' (i + 1) t.1 : Nat)), (33, .int .i64 (t.1 : Nat))])
                (fun t => (mb, arrB .u32 13 t.2 165) :: (wb, arrB .u8 256 w' 163) :: (rb, rdB x s) :: (hb, arrB .u16 2048 old 104) :: (em ++ jk))
                (fun t => t.1 ≤ b ∧ ∀ v, v ≤ 12 → t.2 v = hmark w' (i + 1) t.1 v) (fun t => b - t.1) (0, y') (.refl _) ⟨Nat.zero_le _, hym⟩ ?_ (hf := ⟨rfl, rfl, rfl, rfl, rfl, rfl, by show Value.int .u32 0 = .int .u32 _; rw [hbase_zero]; rfl, rfl, trivial⟩)
              clear hym y'
              rintro ⟨k, y⟩ f ⟨hk, hy⟩
              dsimp only at hk hy ⊢
              have hkm := hbase_mono w' hk (i + 1)
              rw [t5] at hkm
              refine go _ ?_
              refine J_condP rfl (fun hltk => ?_) (fun hgek => ?_)
              · have hbs := hbase_succ w' k (i + 1)
                have hkm1 := hbase_mono w' (k := k + 1) (k' := b) (by omega) (i + 1)
                rw [t5] at hkm1
                have hyk : y (k + 1) = hcnt w' (i + 1) (k + 1) := by rw [hy (k + 1) (by omega)]; unfold hmark; rw [if_neg (by omega)]
                refine go _ ?_
                rw [show y (0 + (k + 1)) = hcnt w' (i + 1) (k + 1) by rw [Nat.zero_add]; exact hyk]
                obtain ⟨pr, hpr⟩ : ∃ pr, pr = hcnt w' (i + 1) (k + 1) * 2 ^ k := ⟨_, rfl⟩
                have hprl : hcnt w' (i + 1) (k + 1) * 2 ^ k < 2 ^ 32 := by rw [← hpr] at hbs ⊢; omega
                refine ro_shlM rfl rfl rfl rfl (by show k ≤ 32; omega) (by show _ < 2 ^ 32; exact hprl) rfl ?_
                rw [← hpr] at hbs ⊢
                refine go _ ?_
                rw [Nat.zero_add, ← hbs]
                refine ⟨(k + 1, updN y (k + 1) (hbase w' (i + 1) k)), by dsimp only; omega, ⟨by dsimp only; omega, fun v hv => ?_⟩, ⟨rfl, rfl, rfl, rfl, rfl, rfl, rfl, rfl, trivial⟩, .refl _⟩
                dsimp only
                unfold hmark
                by_cases he : v = k + 1
                · rw [he, updN_same, if_pos (by omega), Nat.add_sub_cancel]
                · rw [updN_other _ _ _ _ he, hy v hv]
                  unfold hmark
                  by_cases hc : 1 ≤ v ∧ v ≤ k
                  · rw [if_pos hc, if_pos (by omega)]
                  · rw [if_neg hc, if_neg (by omega)]
              · have hkb : k = b := by omega
                subst hkb
                have hy8 : ∀ v, 1 ≤ v → v ≤ k → y v = hbase w' (i + 1) (v - 1) + hcnt w' 0 v * 2 ^ (v - 1) := fun v h1 h2 => by
                  rw [hy v (by omega)]; unfold hmark; rw [if_pos ⟨h1, h2⟩]; simp only [hcnt, Nat.zero_mul, Nat.add_zero]
                clear hy
                refine go _ ?_
                refine J_loopL (σ := Nat × (Nat → Nat)) [] (fun t => [(2, .int .i64 (q : Nat)), (3, .slice (some ⟨hb, 0, none⟩) 2048 2048), (8, .int .i64 (k : Nat)), (26, .pointer (some ⟨mb, 0, none⟩)), (392, .slice (some ⟨wb, 0, none⟩) (i + 1) 256), (393, .int .i64 ((i + 1 : Nat) : Int)), (394, .int .i64 (t.1 : Nat))])
                  (fun t => (mb, arrB .u32 13 t.2 165) :: (wb, arrB .u8 256 w' 163) :: (rb, rdB x s) :: (hb, arrB .u16 2048 (hufTab w' (i + 1) k old t.1) 104) :: (em ++ jk))
                  (fun t => t.1 ≤ i + 1 ∧ ∀ v, 1 ≤ v → v ≤ k → t.2 v = hbase w' (i + 1) (v - 1) + hcnt w' t.1 v * 2 ^ (v - 1)) (fun t => i + 1 - t.1) (0, y) (.refl _) ⟨Nat.zero_le _, hy8⟩ ?_
                clear hy8 y
                rintro ⟨j, y⟩ f ⟨hj, hy⟩
                dsimp only at hj hy ⊢
                refine go _ ?_
                refine J_condP rfl (fun hltj => ?_) (fun hgej => ?_)
                · have hwj := hw8 j (by omega)
                  have hwk := t4 j (by omega)
                  refine go _ ?_
                  rw [Nat.zero_add]
                  refine J_condP rfl (fun hw0 => ?_) (fun hwn => ?_)
                  · have hwz : w' j = 0 := by omega
                    refine go _ ?_
                    refine ⟨(j + 1, y), by dsimp only; omega, ⟨by dsimp only; omega, fun v h1 h2 => ?_⟩, ⟨rfl, rfl, rfl, rfl, rfl, rfl, rfl, trivial⟩, ?_⟩
                    · dsimp only
                      rw [hy v h1 h2, show hcnt w' (j + 1) v = hcnt w' j v by rw [hcnt, if_neg (by omega)]; rfl]
                    · dsimp only
                      rw [hufTab, if_pos hwz]
                      exact .refl _
                  · have hwz : w' j ≠ 0 := by omega
                    have hpl := hplace_le w' (n := i + 1) (i := j) (k := k) (by omega) hwz hwk
                    rw [t5] at hpl
                    have hyj : y (w' j) = hplace w' (i + 1) j := hy (w' j) (by omega) hwk
                    obtain ⟨st, hst⟩ : ∃ st, st = hplace w' (i + 1) j := ⟨_, rfl⟩
                    rw [← hst] at hpl hyj
                    have hp1 : 2 ^ (w' j - 1) ≤ 2 ^ 11 := Nat.pow_le_pow_right (by omega) (by omega)
                    obtain ⟨ln, hln⟩ : ∃ ln, ln = 2 ^ (w' j - 1) := ⟨_, rfl⟩
                    refine go _ ?_
                    refine ro_orZ rfl rfl rfl rfl (by show _ < 2 ^ 16; omega) (by show _ < 2 ^ 16; omega) (hor j (k + 1 - w' j) (by omega)) rfl ?_
                    refine go _ ?_
                    rw [Nat.one_mul, ← hln, show y (0 + w' j) = st by rw [Nat.zero_add]; exact hyj]
                    obtain ⟨tv, htv⟩ : ∃ tv, tv = j * 256 + (k + 1 - w' j) := ⟨_, rfl⟩
                    rw [← htv]
                    obtain ⟨TT, hTT⟩ : ∃ TT, TT = hufTab w' (i + 1) k old j := ⟨_, rfl⟩
                    rw [← hTT]
                    refine go _ ?_
                    refine J_loopL (σ := Nat) [] (fun t => [(2, .int .i64 (q : Nat)), (3, .slice (some ⟨hb, 0, none⟩) 2048 2048), (8, .int .i64 (k : Nat)), (26, .pointer (some ⟨mb, 0, none⟩)), (36, .int .u8 (w' j : Nat)), (37, .int .u32 (ln : Nat)), (38, .int .u16 (tv : Nat)), (39, .int .u32 (st : Nat)), (40, .int .u32 (t : Nat)), (392, .slice (some ⟨wb, 0, none⟩) (i + 1) 256), (393, .int .i64 ((i + 1 : Nat) : Int)), (394, .int .i64 (j : Nat))])
                      (fun t => (mb, arrB .u32 13 y 165) :: (wb, arrB .u8 256 w' 163) :: (rb, rdB x s) :: (hb, arrB .u16 2048 (fun p => if st ≤ p ∧ p < st + t then tv else TT p) 104) :: (em ++ jk))
                      (fun t => t ≤ ln) (fun t => ln - t) 0 ?_ (Nat.zero_le _) ?_
                    · refine .skip (.skip (.skip (.cons ?_ (.refl _))))
                      refine obj_congr fun p _ => ?_
                      show Value.int .u16 _ = Value.int .u16 ((if st ≤ p ∧ p < st + 0 then tv else TT p : Nat) : Int)
                      rw [if_neg (by omega)]
                    rintro l f hl
                    refine go _ ?_
                    refine J_condP rfl (fun hll => ?_) (fun hgl => ?_)
                    · refine go _ ?_
                      refine ⟨l + 1, by omega, by omega, ⟨rfl, rfl, rfl, rfl, rfl, rfl, rfl, rfl, rfl, rfl, rfl, rfl, trivial⟩, .skip (.skip (.skip (.cons ?_ (.refl _))))⟩
                      refine obj_congr fun p _ => ?_
                      show Value.int .u16 ((updN (fun p => if st ≤ p ∧ p < st + l then tv else TT p) (0 + (st + l)) tv p : Nat) : Int) = Value.int .u16 ((if st ≤ p ∧ p < st + (l + 1) then tv else TT p : Nat) : Int)
                      rw [Nat.zero_add]
                      by_cases he : p = st + l
                      · rw [he, updN_same, if_pos (by omega)]
                      · rw [updN_other _ _ _ _ he]
                        by_cases hc : st ≤ p ∧ p < st + l
                        · rw [if_pos hc, if_pos (by omega)]
                        · rw [if_neg hc, if_neg (by omega)]
                    · have hle : l = ln := by omega
                      subst hle
                      refine go _ ?_
                      rw [show y (0 + w' j) = st by rw [Nat.zero_add]; exact hyj]
                      refine go _ ?_
                      refine ⟨(j + 1, updN y (w' j) (st + l)), by dsimp only; omega, ⟨by dsimp only; omega, fun v h1 h2 => ?_⟩, ⟨rfl, rfl, rfl, rfl, rfl, rfl, rfl, trivial⟩, ?_⟩
                      · dsimp only
                        rw [hcnt]
                        by_cases he : v = w' j
                        · rw [he, updN_same, if_pos rfl, hst, hln, Nat.add_mul, Nat.one_mul]
                          unfold hplace
                          rw [Nat.add_assoc]
                        · rw [updN_other _ _ _ _ he, if_neg (fun h => he h.symm), hy v h1 h2]
                          rfl
                      · dsimp only
                        rw [Nat.zero_add, hufTab, if_neg hwz, ← hst, ← hln, ← htv, ← hTT]
                        exact .refl _
                · refine go _ ?_
                  refine J_ret ?_
                  have hje : j = i + 1 := by omega
                  subst hje
                  exact ends_retS [8, 9, 10] (post := (rb, rdB x s) :: (hb, arrB .u16 2048 (hufTab w' (i + 1) k old (i + 1)) 104) :: em) (hR' _ rfl)
end Go.Proofs.YtogmacnlpclgkaaDoor
