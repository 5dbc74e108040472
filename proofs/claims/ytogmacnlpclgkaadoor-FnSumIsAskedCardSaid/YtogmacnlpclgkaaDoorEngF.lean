/-
  AN ENGINE OF WALKS, PART 15: bits of natural numbers; cuts.
-/
import Derived.Test.YtogmacnlpclgkaaDoorEngE
namespace Go.Eng
open Go

/-- The code behind the first so many statements; a function's code behind its one label. -/
def seqDrop : Nat → Code → Code
  | 0, c => c
  | k + 1, .seq _ c => seqDrop k c
  | _ + 1, c => c
def scopeBody : Option Code → Code
  | some (.seq _ (.scope (.seq _ B))) => B
  | _ => .skip
def codeOf : Option Code → Code
  | some c => c
  | none => .skip

/-- How many bits a number of a kind has that is not below 0. -/
def capB : IntKind → Nat
  | .i8 => 7 | .i16 => 15 | .i32 => 31 | .i64 => 63
  | .u8 => 8 | .u16 => 16 | .u32 => 32 | .u64 => 64
theorem capB_le (k : IntKind) : capB k ≤ k.bits := by cases k <;> decide
theorem wrap_nat {k : IntKind} {a : Nat} (h : a < 2 ^ capB k) : k.wrap (a : Int) = a := by
  cases k <;> simp only [capB] at h <;> simp [IntKind.wrap, IntKind.bits, IntKind.signed] <;> omega

section
variable {P : Program} [ty : TyC P] {G : Mem} {qs : List FuncId} {c : World} {n : Nat} {h0 : Base} {ops : Array Oper} {Q : Fr → Mem → Prop} {rest : List Oper} {f : Fr} {m : Mem}
variable {d : Option Tmp} {T T' tt : TypeId} {pos : String} {aft : Array Edge}

omit ty in
theorem ro_andN (a b : Nat) {x y : Operand} {k : IntKind} (hx : ev f x = .int k (a : Int)) (hy : ev f y = .int k (b : Int)) (ha : a < 2 ^ capB k) (hb : b < 2 ^ capB k) (hd : dstOk n d = true)
    (h : RO P G qs c n h0 ops Q rest (updo f d (.int k ((a &&& b : Nat) : Int))) m) : RO P G qs c n h0 ops Q (⟨d, .binOp .and T x y T', tt, pos, aft, none⟩ :: rest) f m := by
  have hle : 2 ^ capB k ≤ 2 ^ k.bits := Nat.pow_le_pow_right (by omega) (capB_le k)
  refine ro_bin hx hy rfl hd ?_
  rw [BitVec.toNat_and, BitVec.ofInt_natCast, BitVec.ofInt_natCast, BitVec.toNat_ofNat, BitVec.toNat_ofNat, Nat.mod_eq_of_lt (by omega), Nat.mod_eq_of_lt (by omega), wrap_nat (Nat.lt_of_le_of_lt Nat.and_le_left ha)]
  exact h
omit ty in
theorem ro_orN (a b : Nat) {x y : Operand} {k : IntKind} (hx : ev f x = .int k (a : Int)) (hy : ev f y = .int k (b : Int)) (ha : a < 2 ^ capB k) (hb : b < 2 ^ capB k) (hd : dstOk n d = true)
    (h : RO P G qs c n h0 ops Q rest (updo f d (.int k ((a ||| b : Nat) : Int))) m) : RO P G qs c n h0 ops Q (⟨d, .binOp .or T x y T', tt, pos, aft, none⟩ :: rest) f m := by
  have hle : 2 ^ capB k ≤ 2 ^ k.bits := Nat.pow_le_pow_right (by omega) (capB_le k)
  refine ro_bin hx hy rfl hd ?_
  rw [BitVec.toNat_or, BitVec.ofInt_natCast, BitVec.ofInt_natCast, BitVec.toNat_ofNat, BitVec.toNat_ofNat, Nat.mod_eq_of_lt (by omega), Nat.mod_eq_of_lt (by omega), wrap_nat (Nat.or_lt_two_pow ha hb)]
  exact h
omit ty in
theorem ro_shlN (a b : Nat) {x y : Operand} {k k' : IntKind} (hx : ev f x = .int k (a : Int)) (hy : ev f y = .int k' (b : Int)) (hb : b ≤ k.bits) (hlt : a * 2 ^ b < 2 ^ capB k) (hd : dstOk n d = true)
    (h : RO P G qs c n h0 ops Q rest (updo f d (.int k ((a * 2 ^ b : Nat) : Int))) m) : RO P G qs c n h0 ops Q (⟨d, .binOp .shl T x y T', tt, pos, aft, none⟩ :: rest) f m := by
  refine ro_shl hx hy (by omega) hd ?_
  rw [Int.toNat_natCast, Nat.min_eq_left hb]
  have : (a : Int) * 2 ^ b = ((a * 2 ^ b : Nat) : Int) := by push_cast; rfl
  rw [this, wrap_nat hlt]
  exact h
omit ty in
theorem ro_shrN (a b : Nat) {x y : Operand} {k k' : IntKind} (hx : ev f x = .int k (a : Int)) (hy : ev f y = .int k' (b : Int)) (hb : b ≤ k.bits) (hd : dstOk n d = true)
    (h : RO P G qs c n h0 ops Q rest (updo f d (.int k ((a / 2 ^ b : Nat) : Int))) m) : RO P G qs c n h0 ops Q (⟨d, .binOp .shr T x y T', tt, pos, aft, none⟩ :: rest) f m := by
  refine ro_shr hx hy (by omega) hd ?_
  rw [Int.toNat_natCast, Nat.min_eq_left hb, fdiv_pow]
  have : (a : Int) / 2 ^ b = ((a / 2 ^ b : Nat) : Int) := by push_cast; rfl
  rw [this]
  exact h
omit ty in
theorem ro_quoN (a b : Nat) {x y : Operand} {k : IntKind} (hx : ev f x = .int k (a : Int)) (hy : ev f y = .int k (b : Int)) (hb : b ≠ 0) (ha : a < 2 ^ capB k) (hd : dstOk n d = true)
    (h : RO P G qs c n h0 ops Q rest (updo f d (.int k ((a / b : Nat) : Int))) m) : RO P G qs c n h0 ops Q (⟨d, .binOp .quo T x y T', tt, pos, aft, none⟩ :: rest) f m := by
  refine ro_quo hx hy (by omega) hd ?_
  have : (a : Int).tdiv b = ((a / b : Nat) : Int) := by rw [Int.tdiv_eq_ediv_of_nonneg (by omega)]; push_cast; rfl
  rw [this, wrap_nat (Nat.lt_of_le_of_lt (Nat.div_le_self _ _) ha)]
  exact h
omit ty in
theorem ro_mulN (a b : Nat) {x y : Operand} {k : IntKind} (hx : ev f x = .int k (a : Int)) (hy : ev f y = .int k (b : Int)) (ha : a * b < 2 ^ capB k) (hd : dstOk n d = true)
    (h : RO P G qs c n h0 ops Q rest (updo f d (.int k ((a * b : Nat) : Int))) m) : RO P G qs c n h0 ops Q (⟨d, .binOp .mul T x y T', tt, pos, aft, none⟩ :: rest) f m := by
  have : (a : Int) * b = ((a * b : Nat) : Int) := by push_cast; rfl
  refine ro_mul hx hy ?_ hd ?_
  · rw [this, wrap_nat ha]
  · rw [this]; exact h
omit ty in
theorem ro_addN (a b : Nat) {x y : Operand} {k : IntKind} (hx : ev f x = .int k (a : Int)) (hy : ev f y = .int k (b : Int)) (ha : a + b < 2 ^ capB k) (hd : dstOk n d = true)
    (h : RO P G qs c n h0 ops Q rest (updo f d (.int k ((a + b : Nat) : Int))) m) : RO P G qs c n h0 ops Q (⟨d, .binOp .add T x y T', tt, pos, aft, none⟩ :: rest) f m := by
  have : (a : Int) + b = ((a + b : Nat) : Int) := by push_cast; rfl
  refine ro_add hx hy ?_ hd ?_
  · rw [this, wrap_nat ha]
  · rw [this]; exact h
omit ty in
theorem ro_subN (a b : Nat) {x y : Operand} {k : IntKind} (hx : ev f x = .int k (a : Int)) (hy : ev f y = .int k (b : Int)) (hba : b ≤ a) (ha : a < 2 ^ capB k) (hd : dstOk n d = true)
    (h : RO P G qs c n h0 ops Q rest (updo f d (.int k ((a - b : Nat) : Int))) m) : RO P G qs c n h0 ops Q (⟨d, .binOp .sub T x y T', tt, pos, aft, none⟩ :: rest) f m := by
  have : (a : Int) - b = ((a - b : Nat) : Int) := by omega
  refine ro_sub hx hy ?_ hd ?_
  · rw [this, wrap_nat (by omega)]
  · rw [this]; exact h
omit ty in
theorem ro_convN (a : Nat) {x : Operand} {k k' : IntKind} {T1 T2 : TypeId} (hx : ev f x = .int k (a : Int)) (h1 : P.underlying T1 = some (.int k)) (h2 : P.underlying T2 = some (.int k')) (ha : a < 2 ^ capB k') (hd : dstOk n d = true)
    (hh : ∀ w, (execOp (ev f) ⟨d, .convert T1 T2 x, tt, pos, aft, none⟩).run P w = .ok (.value (.int k' (k'.wrap (a : Int)))) w)
    (h : RO P G qs c n h0 ops Q rest (updo f d (.int k' (a : Int))) m) : RO P G qs c n h0 ops Q (⟨d, .convert T1 T2 x, tt, pos, aft, none⟩ :: rest) f m := by
  have _ := hx; have _ := h1; have _ := h2
  refine ro_pureC cls_conv rfl hd hh ?_
  rw [wrap_nat ha]
  exact h

omit ty in
theorem ro_neIntB (r : Bool) {x y : Operand} {k : IntKind} {a b : Int} (hx : ev f x = .int k a) (hy : ev f y = .int k b) (hr : (a ≠ b) ↔ r = true) (hd : dstOk n d = true)
    (h : RO P G qs c n h0 ops Q rest (updo f d (.bool r)) m) : RO P G qs c n h0 ops Q (⟨d, .binOp .neq T x y T', tt, pos, aft, none⟩ :: rest) f m :=
  ro_neInt hx hy hd (by
    have : decide (a ≠ b) = r := by cases r <;> simp_all
    first | (rw [this]; exact h) | (simp only [ne_eq] at this ⊢; rw [this]; exact h))
omit ty in
theorem ro_eqIntB (r : Bool) {x y : Operand} {k : IntKind} {a b : Int} (hx : ev f x = .int k a) (hy : ev f y = .int k b) (hr : (a = b) ↔ r = true) (hd : dstOk n d = true)
    (h : RO P G qs c n h0 ops Q rest (updo f d (.bool r)) m) : RO P G qs c n h0 ops Q (⟨d, .binOp .eql T x y T', tt, pos, aft, none⟩ :: rest) f m :=
  ro_eqInt hx hy hd (by
    have : decide (a = b) = r := by cases r <;> simp_all
    rw [this]; exact h)

omit ty in
/-- A cut: what is known behind a piece of code, and no more. -/
theorem J_cut {cd rest : Code} {Q Q' : Exit → Fr → Mem → Prop} (slots : List (Nat × Value)) (mem : Mem) (h1 : J P G c n h0 cd (thenQ (fun f' m' => slotsOk f' slots ∧ MEqv m' mem) Q) f m)
    (h2 : ∀ f', J P G c n h0 rest Q' (setL f' slots) mem) : J P G c n h0 cd (thenQ (fun f m => J P G c n h0 rest Q' f m) Q) f m := by
  refine J_mono h1 ?_
  intro e f' m' h
  cases e <;> first | exact h | skip
  obtain ⟨hs, hm⟩ := h
  have := h2 f'
  rw [setL_of hs] at this
  exact J_eqv hm this
omit ty in
/-- .. and what has been learnt. -/
theorem J_cutP {cd rest : Code} {Q Q' : Exit → Fr → Mem → Prop} (p : Prop) (slots : List (Nat × Value)) (mem : Mem) (h1 : J P G c n h0 cd (thenQ (fun f' m' => p ∧ slotsOk f' slots ∧ MEqv m' mem) Q) f m)
    (h2 : p → ∀ f', J P G c n h0 rest Q' (setL f' slots) mem) : J P G c n h0 cd (thenQ (fun f m => J P G c n h0 rest Q' f m) Q) f m := by
  refine J_mono h1 ?_
  intro e f' m' h
  cases e <;> first | exact h | skip
  obtain ⟨hp, hs, hm⟩ := h
  have := h2 hp f'
  rw [setL_of hs] at this
  exact J_eqv hm this
omit ty in
/-- .. with a state. -/
theorem J_cutE {σ : Type} {cd rest : Code} {Q Q' : Exit → Fr → Mem → Prop} (slots : σ → List (Nat × Value)) (mem : σ → Mem) (inv : σ → Prop) (h1 : J P G c n h0 cd (thenQ (fun f' m' => ∃ s, inv s ∧ slotsOk f' (slots s) ∧ MEqv m' (mem s)) Q) f m)
    (h2 : ∀ s f', inv s → J P G c n h0 rest Q' (setL f' (slots s)) (mem s)) : J P G c n h0 cd (thenQ (fun f m => J P G c n h0 rest Q' f m) Q) f m := by
  refine J_mono h1 ?_
  intro e f' m' h
  cases e <;> first | exact h | skip
  obtain ⟨s, hi, hs, hm⟩ := h
  have := h2 s f' hi
  rw [setL_of hs] at this
  exact J_eqv hm this
omit ty in
/-- .. at a place between two pieces. -/
theorem J_cutHere {cd : Code} {Q' : Exit → Fr → Mem → Prop} (slots : List (Nat × Value)) (mem : Mem) (hs : slotsOk f slots) (hm : MEqv m mem)
    (h2 : ∀ f', J P G c n h0 cd Q' (setL f' slots) mem) : J P G c n h0 cd Q' f m := by
  have := h2 f
  rw [setL_of hs] at this
  exact J_eqv hm this

end
end Go.Eng
