/-
  WALKS 11: THE REFERENCE: HeadOf; the law FnHeader.
-/
import Derived.Test.YtogmacnlpclgkaaDoorW10
namespace Go.Proofs.YtogmacnlpclgkaaDoor
open Go Go.Eng
attribute [local irreducible] RO J Trip Quiet
variable {G : Mem}

theorem DataV.view {M : Mem} {oa : Option Addr} {n cp : Nat} {x : Nat → Nat} (h : DataV M oa n cp x) : View M oa n cp x := ⟨h.le, h.is⟩
theorem _root_.Go.Eng.View.dv {M : Mem} {oa : Option Addr} {n cp : Nat} {x : Nat → Nat} (h : View M oa n cp x) : DataV M oa n cp x := ⟨h.le, h.is⟩

theorem andNot15 (a : Nat) (h : a < 2 ^ 63) : (BitVec.ofInt 64 (a : Int) &&& ~~~BitVec.ofInt 64 15).toNat = a / 16 * 16 := by
  rw [BitVec.toNat_and]
  have e : (~~~BitVec.ofInt 64 15).toNat = 2 ^ 64 - 16 := by decide
  rw [e, BitVec.ofInt_natCast, BitVec.toNat_ofNat, Nat.mod_eq_of_lt (by omega)]
  have e2 : a / 16 * 16 = (a >>> 4) <<< 4 := by rw [Nat.shiftRight_eq_div_pow, Nat.shiftLeft_eq]
  rw [e2]
  refine Nat.eq_of_testBit_eq fun i => ?_
  rw [Nat.testBit_and, Nat.testBit_shiftLeft, Nat.testBit_shiftRight]
  have e3 : (2 ^ 64 - 16 : Nat) = (2 ^ 60 - 1) <<< 4 := by decide
  rw [e3, Nat.testBit_shiftLeft, Nat.testBit_two_pow_sub_one]
  by_cases h4 : 4 ≤ i
  · rw [show 4 + (i - 4) = i by omega]
    by_cases h64 : i < 64
    · simp [h4]; omega
    · have : a.testBit i = false := Nat.testBit_lt_two_pow (Nat.lt_of_lt_of_le h (Nat.pow_le_pow_right (by omega) (by omega)))
      simp [this]
  · simp [h4]
theorem ro_andNot15 {P : Program} {qs : List FuncId} {c : World} {n : Nat} {h0 : Base} {ops : Array Oper} {Q : Fr → Mem → Prop} {rest : List Oper} {f : Fr} {m : Mem} {d : Option Tmp} {T T' tt : TypeId} {pos : String} {aft : Array Edge} (a : Nat) {x : Operand} (hx : ev f x = .int .i64 (a : Int)) (ha : a < 2 ^ 62) (hd : dstOk n d = true)
    (h : RO P G qs c n h0 ops Q rest (updo f d (.int .i64 ((a / 16 * 16 : Nat) : Int))) m) : RO P G qs c n h0 ops Q (⟨d, .binOp .andNot T x (.const (.int .i64 15)) T', tt, pos, aft, none⟩ :: rest) f m := by
  refine ro_bin hx rfl rfl hd ?_
  rw [show IntKind.bits .i64 = 64 from rfl, andNot15 a (by omega), wrap_nat (show _ < 2 ^ 63 by omega)]
  exact h

theorem magic_low (x : Nat → Nat) (p : Nat) : numLow (fun i => x (p + i)) 4 = magicAt x p := by rw [nl4]; rfl
theorem magic_lt {x : Nat → Nat} (hx : ∀ i, x i < 256) (p : Nat) : magicAt x p < 4294967296 := le4_lt _ (fun _ => hx _)

/-- What the reference says of a header behind skippable frames; p: where it stands. -/
def headR (x : Nat → Nat) (n : Nat) : SpecR :=
  let p := skipTo x n n 0
  if n - p < 4 then .wrong
  else if magicAt x p / 16 * 16 = 407710288 then .wrong
  else if magicAt x p ≠ 4247762216 then .wrong
  else if n - p < 5 then .wrong
  else specHdr (fun i => x (p + i)) (n - p)

def headRV (x : Nat → Nat) (n : Nat) (v : Value) : Prop := ∃ (a b e vd : Nat) (kn sm : Bool),
  v = .tuple #[.agg #[.int .i64 a, .int .i64 b, .bool kn, .bool sm, .int .i64 e], .int .i64 vd] ∧
    match headR x n with
    | .wrong => vd = 2
    | .open_ => vd = 0
    | .right size win pos => vd = 1 ∧ a = win ∧ b = size ∧ kn = (hFcs (x (skipTo x n n 0 + 4)) != 0) ∧ sm = hSum (x (skipTo x n n 0 + 4)) ∧ e = skipTo x n n 0 + pos

theorem skip_stop {x : Nat → Nat} {n p : Nat} (h : wholeSkip x n p = false) : ∀ (k : Nat), skipTo x n k p = p
  | 0 => rfl
  | k + 1 => by rw [skipTo, h]; rfl
theorem headOf_t (oa : Option Addr) (n cp : Nat) (x : Nat → Nat) (hx : ∀ i, x i < 256) (hv : View G oa n cp x) (hn : n ≤ 2 ^ 31) :
    Trip Tryd.prog G 7 #[.slice oa n cp] [] (fun v m => m = [] ∧ headRV x n v) := by
  refine Trip_of Tryd.func7 rfl (by show 1 ≤ _; decide) (args := [.slice oa n cp]) fun c h0 hex => ?_
  have hcp := hv.le
  refine go _ ?_
  refine ro_alloc z24 rfl hex fun hd hhd => ?_
  refine go _ ?_
  refine J_loopL (σ := Nat) [0, 2] (fun p => [(4, .int .i64 p)]) (fun _ => [(hd, listB [.int .i64 0, .int .i64 0, .bool false, .bool false, .int .i64 0] 24)]) (fun p => p ≤ n ∧ ∃ k, n ≤ p + k ∧ skipTo x n n 0 = skipTo x n k p) (fun p => n - p) 0 (.refl _) ⟨Nat.zero_le _, n, by omega, rfl⟩ ?_
  rintro p f ⟨hp, k, hk, hsk⟩
  have hs := hv.sub (l := p) (h := n) hp (Nat.le_refl _)
  have hmlt := magic_lt hx p
  refine go _ ?_
  refine ro_slV p n hv rfl rfl rfl rfl rfl rfl rfl hp hcp rfl ?_
  refine go _ ?_
  refine J_condP rfl (fun hlt => ?_) (fun hge => ?_)
  · have hw : headR x n = .wrong := by
      have e : skipTo x n n 0 = p := by rw [hsk]; exact skip_stop (by unfold wholeSkip isSkip; simp; omega) k
      unfold headR; simp only [e]; rw [if_pos (by omega)]
    refine go _ ?_
    refine ro_build1 (vs := [.int .i64 0, .int .i64 0, .bool false, .bool false, .int .i64 0]) rfl rfl z24 rfl rfl rfl rfl ?_
    refine go _ ?_
    refine ro_storeAgg (s := 4) (vs := [.int .i64 0, .int .i64 0, .bool false, .bool false, .int .i64 0]) rfl rfl rfl rfl (fun v hv => by simp only [List.mem_cons, List.not_mem_nil, or_false] at hv; rcases hv with rfl | rfl | rfl | rfl | rfl <;> rfl) .here (by decide) rfl hex ?_
    refine go _ ?_
    refine J_ret ?_
    exact ends_retC [.cell 2 24, .tmp 3] [.agg #[.int .i64 0, .int .i64 0, .bool false, .bool false, .int .i64 0], .int .i64 ((2 : Nat) : Int)] ⟨⟨hd, 0, 4, _, rfl, rfl, rfl, List.mem_cons_self, Nat.le_refl 5, rfl⟩, rfl, trivial⟩ ⟨rfl, _, _, _, _, _, _, rfl, by rw [hw]⟩
  have hge' : 4 ≤ n - p := by omega
  refine go _ ?_
  refine ro_slVT 4 hs rfl rfl rfl rfl rfl (by omega) rfl ?_
  have hs4 := hs.cut hge'
  refine go _ ?_
  refine ro_callT (numberLow_t _ 4 _ _ (fun _ => hx _) hs4.dv (by rw [magic_low]; omega) (by omega)) ?_
  rintro v m ⟨rfl, rfl⟩
  rw [magic_low]
  refine go _ ?_
  refine ro_andNot15 (magicAt x p) rfl (by omega) rfl ?_
  refine go _ ?_
  have hiss : isSkip x n p = decide (magicAt x p / 16 * 16 = 407710288) := by
    unfold isSkip
    by_cases h : magicAt x p / 16 * 16 = 407710288
    · rw [decide_eq_true h]; simp; omega
    · rw [decide_eq_false h]; simp; omega
  refine J_condP rfl (fun hskp => ?_) (fun hskp => ?_)
  · have hskp' : magicAt x p / 16 * 16 = 407710288 := by omega
    rw [decide_eq_true hskp'] at hiss
    have hwr : wholeSkip x n p = false → headR x n = .wrong := fun hwf => by
      have e : skipTo x n n 0 = p := by rw [hsk]; exact skip_stop hwf k
      unfold headR; simp only [e]; rw [if_neg (by omega), if_pos hskp']
    refine go _ ?_
    refine ro_splitP 26 rfl (fun h8 => ?_) (fun h8 => ?_)
    · have hw := hwr (by unfold wholeSkip; rw [hiss]; simp; omega)
      refine go _ ?_
      refine ro_build1 (vs := [.int .i64 0, .int .i64 0, .bool false, .bool false, .int .i64 0]) rfl rfl z24 rfl rfl rfl rfl ?_
      refine go _ ?_
      refine ro_storeAgg (s := 4) (vs := [.int .i64 0, .int .i64 0, .bool false, .bool false, .int .i64 0]) rfl rfl rfl rfl (fun v hv => by simp only [List.mem_cons, List.not_mem_nil, or_false] at hv; rcases hv with rfl | rfl | rfl | rfl | rfl <;> rfl) .here (by decide) rfl hex ?_
      refine go _ ?_
      refine J_ret ?_
      exact ends_retC [.cell 2 24, .tmp 3] [.agg #[.int .i64 0, .int .i64 0, .bool false, .bool false, .int .i64 0], .int .i64 ((2 : Nat) : Int)] ⟨⟨hd, 0, 4, _, rfl, rfl, rfl, List.mem_cons_self, Nat.le_refl 5, rfl⟩, rfl, trivial⟩ ⟨rfl, _, _, _, _, _, _, rfl, by rw [hw]⟩
    · have h8' : 8 ≤ n - p := by omega
      have hs8 := hs.sub (l := 4) (h := 8) (by omega) h8'
      have hm2 := magic_lt hx (p + 4)
      have e4 : numLow (fun i => x (p + (4 + i))) 4 = magicAt x (p + 4) := by rw [← magic_low]; simp only [Nat.add_assoc]
      have e4' : (4 : Nat) = 8 - 4 := rfl
      refine go _ ?_
      refine ro_slV 4 8 hs rfl rfl rfl rfl rfl rfl rfl (by omega) (by omega) rfl ?_
      refine go _ ?_
      refine ro_callT (numberLow_t _ 4 _ _ (fun _ => hx _) hs8.dv (by rw [e4]; omega) (by omega)) ?_
      rintro v m ⟨rfl, rfl⟩
      rw [e4]
      refine go _ ?_
      refine J_condP rfl (fun hgt => ?_) (fun hle => ?_)
      · have hw := hwr (by unfold wholeSkip; rw [hiss]; simp; omega)
        refine go _ ?_
        refine ro_build1 (vs := [.int .i64 0, .int .i64 0, .bool false, .bool false, .int .i64 0]) rfl rfl z24 rfl rfl rfl rfl ?_
        refine go _ ?_
        refine ro_storeAgg (s := 4) (vs := [.int .i64 0, .int .i64 0, .bool false, .bool false, .int .i64 0]) rfl rfl rfl rfl (fun v hv => by simp only [List.mem_cons, List.not_mem_nil, or_false] at hv; rcases hv with rfl | rfl | rfl | rfl | rfl <;> rfl) .here (by decide) rfl hex ?_
        refine go _ ?_
        refine J_ret ?_
        exact ends_retC [.cell 2 24, .tmp 3] [.agg #[.int .i64 0, .int .i64 0, .bool false, .bool false, .int .i64 0], .int .i64 ((2 : Nat) : Int)] ⟨⟨hd, 0, 4, _, rfl, rfl, rfl, List.mem_cons_self, Nat.le_refl 5, rfl⟩, rfl, trivial⟩ ⟨rfl, _, _, _, _, _, _, rfl, by rw [hw]⟩
      · refine go _ ?_
        refine ro_slV 4 8 hs rfl rfl rfl rfl rfl rfl rfl (by omega) (by omega) rfl ?_
        refine go _ ?_
        refine ro_callT (numberLow_t _ 4 _ _ (fun _ => hx _) hs8.dv (by rw [e4]; omega) (by omega)) ?_
        rintro v m ⟨rfl, rfl⟩
        rw [e4]
        have hwt : wholeSkip x n p = true := by unfold wholeSkip; rw [hiss]; simp; omega
        obtain ⟨k, rfl⟩ : ∃ k', k = k' + 1 := ⟨k - 1, by omega⟩
        refine go _ ?_
        refine ⟨p + (8 + magicAt x (p + 4)), by show _ < _; omega, ⟨by omega, k, by omega, ?_⟩, ?_, ?_⟩
        · rw [hsk, skipTo, if_pos hwt, Nat.add_assoc]
        · exact ⟨rfl, rfl, rfl, trivial⟩
        · exact .refl _
  have hskp' : ¬ magicAt x p / 16 * 16 = 407710288 := by omega
  rw [decide_eq_false hskp'] at hiss
  have e : skipTo x n n 0 = p := by rw [hsk]; exact skip_stop (by unfold wholeSkip; rw [hiss]; rfl) k
  refine go _ ?_
  refine ro_splitP 44 rfl (fun hm => ?_) (fun hm => ?_)
  · have hm' : magicAt x p ≠ 4247762216 := by omega
    have hw : headR x n = .wrong := by unfold headR; simp only [e]; rw [if_neg (by omega), if_neg hskp', if_pos hm']
    refine go _ ?_
    refine ro_build1 (vs := [.int .i64 0, .int .i64 0, .bool false, .bool false, .int .i64 0]) rfl rfl z24 rfl rfl rfl rfl ?_
    refine go _ ?_
    refine ro_storeAgg (s := 4) (vs := [.int .i64 0, .int .i64 0, .bool false, .bool false, .int .i64 0]) rfl rfl rfl rfl (fun v hv => by simp only [List.mem_cons, List.not_mem_nil, or_false] at hv; rcases hv with rfl | rfl | rfl | rfl | rfl <;> rfl) .here (by decide) rfl hex ?_
    refine go _ ?_
    refine J_ret ?_
    exact ends_retC [.cell 2 24, .tmp 3] [.agg #[.int .i64 0, .int .i64 0, .bool false, .bool false, .int .i64 0], .int .i64 ((2 : Nat) : Int)] ⟨⟨hd, 0, 4, _, rfl, rfl, rfl, List.mem_cons_self, Nat.le_refl 5, rfl⟩, rfl, trivial⟩ ⟨rfl, _, _, _, _, _, _, rfl, by rw [hw]⟩
  have hm' : magicAt x p = 4247762216 := by omega
  refine go _ ?_
  refine J_condP rfl (fun h5 => ?_) (fun h5 => ?_)
  · have hw : headR x n = .wrong := by unfold headR; simp only [e]; rw [if_neg (by omega), if_neg hskp', if_neg (by omega), if_pos (by omega)]
    refine go _ ?_
    refine ro_build1 (vs := [.int .i64 0, .int .i64 0, .bool false, .bool false, .int .i64 0]) rfl rfl z24 rfl rfl rfl rfl ?_
    refine go _ ?_
    refine ro_storeAgg (s := 4) (vs := [.int .i64 0, .int .i64 0, .bool false, .bool false, .int .i64 0]) rfl rfl rfl rfl (fun v hv => by simp only [List.mem_cons, List.not_mem_nil, or_false] at hv; rcases hv with rfl | rfl | rfl | rfl | rfl <;> rfl) .here (by decide) rfl hex ?_
    refine go _ ?_
    refine J_ret ?_
    exact ends_retC [.cell 2 24, .tmp 3] [.agg #[.int .i64 0, .int .i64 0, .bool false, .bool false, .int .i64 0], .int .i64 ((2 : Nat) : Int)] ⟨⟨hd, 0, 4, _, rfl, rfl, rfl, List.mem_cons_self, Nat.le_refl 5, rfl⟩, rfl, trivial⟩ ⟨rfl, _, _, _, _, _, _, rfl, by rw [hw]⟩
  have h5' : 5 ≤ n - p := by omega
  have hw : headR x n = specHdr (fun i => x (p + i)) (n - p) := by unfold headR; simp only [e]; rw [if_neg (by omega), if_neg hskp', if_neg (by omega), if_neg (by omega)]
  obtain ⟨b, o, B, ho, hB, hBn, hBg⟩ : ∃ b o B, subA oa p cp = some ⟨b, o, none⟩ ∧ (b, B) ∈ G ∧ o + (n - p) ≤ B.n ∧ ∀ i, i < n - p → B.g (o + i) = .int .u8 (x (p + i)) := by
    rcases hs.is with ⟨_, h1, _⟩ | h
    · omega
    · obtain ⟨b, o, B, h1, h2, h3, h4⟩ := h
      exact ⟨b, o, B, h1, h2, h3 (by omega), h4⟩
  rw [ho]
  refine go _ ?_
  refine ro_callT (headerOf_t b o (n - p) (cp - p) B (fun i => x (p + i)) (fun _ => hx _) (by omega) hB hBn hBg h5' (by omega)) ?_
  rintro v m ⟨rfl, va, vb, at_, vd, rfl, hat, hmt⟩
  refine go _ ?_
  refine ro_alloc z54 rfl hex fun hh hhh => ?_
  refine go _ ?_
  refine ro_storeAgg (s := 3) (vs := [.int .i64 va, .int .i64 vb, .bool (hFcs (x (p + 4)) != 0), .bool (hSum (x (p + 4)))]) rfl rfl rfl rfl (fun v hv => by simp only [List.mem_cons, List.not_mem_nil, or_false] at hv; rcases hv with rfl | rfl | rfl | rfl <;> rfl) .here (by decide) rfl hex ?_
  refine go _ ?_
  refine ro_build1 (vs := [.int .i64 vb, .int .i64 va, .bool (hFcs (x (p + 4)) != 0), .bool (hSum (x (p + 4))), .int .i64 ((p + at_ : Nat) : Int)]) rfl rfl z24 rfl rfl rfl rfl ?_
  refine go _ ?_
  refine ro_storeAgg (s := 4) (vs := [.int .i64 vb, .int .i64 va, .bool (hFcs (x (p + 4)) != 0), .bool (hSum (x (p + 4))), .int .i64 ((p + at_ : Nat) : Int)]) rfl rfl rfl rfl (fun v hv => by simp only [List.mem_cons, List.not_mem_nil, or_false] at hv; rcases hv with rfl | rfl | rfl | rfl | rfl <;> rfl) (.there .here) (by decide) rfl hex ?_
  refine go _ ?_
  refine J_ret ?_
  refine ends_retC [.cell 2 24, .tmp 3] [.agg #[.int .i64 vb, .int .i64 va, .bool (hFcs (x (p + 4)) != 0), .bool (hSum (x (p + 4))), .int .i64 ((p + at_ : Nat) : Int)], .int .i64 vd] ⟨⟨hd, 0, 4, _, rfl, rfl, rfl, List.mem_cons_of_mem _ List.mem_cons_self, Nat.le_refl 5, rfl⟩, rfl, trivial⟩ ⟨rfl, _, _, _, _, _, _, rfl, ?_⟩
  rw [hw, e]
  revert hmt
  cases specHdr (fun i => x (p + i)) (n - p) with
  | wrong => exact id
  | open_ => exact id
  | right size win pos => exact fun ⟨h1, h2, h3, h4⟩ => ⟨h1, h3, h2, rfl, rfl, by rw [h4]⟩
end Go.Proofs.YtogmacnlpclgkaaDoor
