/-
  AN ENGINE OF WALKS, PART 16: natural numbers throughout; blocks of whole numbers; joins and loops that name what is live.
-/
import Derived.Test.YtogmacnlpclgkaaDoorEngF
namespace Go.Eng
open Go

theorem lit_cast (c : Nat) : (OfNat.ofNat c : Int) = ((OfNat.ofNat c : Nat) : Int) := rfl
theorem lim8 {a : Nat} (h : a < 256) : a < 2 ^ capB .u8 := h
theorem lim16 {a : Nat} (h : a < 65536) : a < 2 ^ capB .u16 := h
theorem lim32 {a : Nat} (h : a < 4294967296) : a < 2 ^ capB .u32 := h
theorem lim64 {a : Nat} (h : a < 18446744073709551616) : a < 2 ^ capB .u64 := h
theorem limi8 {a : Nat} (h : a < 128) : a < 2 ^ capB .i8 := h
theorem limi16 {a : Nat} (h : a < 32768) : a < 2 ^ capB .i16 := h
theorem limi32 {a : Nat} (h : a < 2147483648) : a < 2 ^ capB .i32 := h
theorem limi64 {a : Nat} (h : a < 9223372036854775808) : a < 2 ^ capB .i64 := h

theorem and_1 (a : Nat) : a &&& 1 = a % 2 := Nat.and_two_pow_sub_one_eq_mod a 1
theorem and_3 (a : Nat) : a &&& 3 = a % 4 := Nat.and_two_pow_sub_one_eq_mod a 2
theorem and_7 (a : Nat) : a &&& 7 = a % 8 := Nat.and_two_pow_sub_one_eq_mod a 3
theorem and_15 (a : Nat) : a &&& 15 = a % 16 := Nat.and_two_pow_sub_one_eq_mod a 4
theorem and_31 (a : Nat) : a &&& 31 = a % 32 := Nat.and_two_pow_sub_one_eq_mod a 5
theorem and_63 (a : Nat) : a &&& 63 = a % 64 := Nat.and_two_pow_sub_one_eq_mod a 6
theorem and_255 (a : Nat) : a &&& 255 = a % 256 := Nat.and_two_pow_sub_one_eq_mod a 8
theorem and_4095 (a : Nat) : a &&& 4095 = a % 4096 := Nat.and_two_pow_sub_one_eq_mod a 12
theorem and_24 (a : Nat) : a &&& 16777215 = a % 16777216 := Nat.and_two_pow_sub_one_eq_mod a 24

/-- The wrap of an unsigned kind. -/
theorem wrap_u {k : IntKind} (hk : k.signed = false) (a : Nat) : k.wrap (a : Int) = ((a % 2 ^ k.bits : Nat) : Int) := by
  cases k <;> first | (cases hk; done) | (simp [IntKind.wrap, IntKind.bits, IntKind.signed])

section
variable {P : Program} [ty : TyC P] {G : Mem} {qs : List FuncId} {c : World} {n : Nat} {h0 : Base} {ops : Array Oper} {Q : Fr → Mem → Prop} {rest : List Oper} {f : Fr} {m : Mem}
variable {d : Option Tmp} {T T' tt : TypeId} {pos : String} {aft : Array Edge}

omit ty in
theorem ro_addM {x y : Operand} {k : IntKind} {A B : Int} {a b : Nat} (hx : ev f x = .int k A) (hy : ev f y = .int k B) (hA : A = (a : Int)) (hB : B = (b : Int)) (hl : a + b < 2 ^ capB k) (hd : dstOk n d = true)
    (h : RO P G qs c n h0 ops Q rest (updo f d (.int k ((a + b : Nat) : Int))) m) : RO P G qs c n h0 ops Q (⟨d, .binOp .add T x y T', tt, pos, aft, none⟩ :: rest) f m := by
  subst hA hB; exact ro_addN a b hx hy hl hd h
omit ty in
theorem ro_subM {x y : Operand} {k : IntKind} {A B : Int} {a b : Nat} (hx : ev f x = .int k A) (hy : ev f y = .int k B) (hA : A = (a : Int)) (hB : B = (b : Int)) (hle : b ≤ a) (hl : a < 2 ^ capB k) (hd : dstOk n d = true)
    (h : RO P G qs c n h0 ops Q rest (updo f d (.int k ((a - b : Nat) : Int))) m) : RO P G qs c n h0 ops Q (⟨d, .binOp .sub T x y T', tt, pos, aft, none⟩ :: rest) f m := by
  subst hA hB; exact ro_subN a b hx hy hle hl hd h
omit ty in
theorem ro_mulM {x y : Operand} {k : IntKind} {A B : Int} {a b : Nat} (hx : ev f x = .int k A) (hy : ev f y = .int k B) (hA : A = (a : Int)) (hB : B = (b : Int)) (hl : a * b < 2 ^ capB k) (hd : dstOk n d = true)
    (h : RO P G qs c n h0 ops Q rest (updo f d (.int k ((a * b : Nat) : Int))) m) : RO P G qs c n h0 ops Q (⟨d, .binOp .mul T x y T', tt, pos, aft, none⟩ :: rest) f m := by
  subst hA hB; exact ro_mulN a b hx hy hl hd h
omit ty in
theorem ro_quoM {x y : Operand} {k : IntKind} {A B : Int} {a b : Nat} (hx : ev f x = .int k A) (hy : ev f y = .int k B) (hA : A = (a : Int)) (hB : B = (b : Int)) (hb : b ≠ 0) (hl : a < 2 ^ capB k) (hd : dstOk n d = true)
    (h : RO P G qs c n h0 ops Q rest (updo f d (.int k ((a / b : Nat) : Int))) m) : RO P G qs c n h0 ops Q (⟨d, .binOp .quo T x y T', tt, pos, aft, none⟩ :: rest) f m := by
  subst hA hB; exact ro_quoN a b hx hy hb hl hd h
omit ty in
theorem ro_remM {x y : Operand} {k : IntKind} {A B : Int} {a b : Nat} (hx : ev f x = .int k A) (hy : ev f y = .int k B) (hA : A = (a : Int)) (hB : B = (b : Int)) (hb : b ≠ 0) (hd : dstOk n d = true)
    (h : RO P G qs c n h0 ops Q rest (updo f d (.int k ((a % b : Nat) : Int))) m) : RO P G qs c n h0 ops Q (⟨d, .binOp .rem T x y T', tt, pos, aft, none⟩ :: rest) f m := by
  subst hA hB
  refine ro_rem hx hy (by omega) hd ?_
  have : (a : Int).tmod b = ((a % b : Nat) : Int) := by rw [Int.tmod_eq_emod_of_nonneg (by omega)]; push_cast; rfl
  rw [this]; exact h
omit ty in
theorem ro_shlM {x y : Operand} {k k' : IntKind} {A B : Int} {a b : Nat} (hx : ev f x = .int k A) (hy : ev f y = .int k' B) (hA : A = (a : Int)) (hB : B = (b : Int)) (hb : b ≤ k.bits) (hl : a * 2 ^ b < 2 ^ capB k) (hd : dstOk n d = true)
    (h : RO P G qs c n h0 ops Q rest (updo f d (.int k ((a * 2 ^ b : Nat) : Int))) m) : RO P G qs c n h0 ops Q (⟨d, .binOp .shl T x y T', tt, pos, aft, none⟩ :: rest) f m := by
  subst hA hB; exact ro_shlN a b hx hy hb hl hd h
omit ty in
/-- A shift that may lose bits. -/
theorem ro_shlU {x y : Operand} {k k' : IntKind} {A B : Int} {a b : Nat} (hx : ev f x = .int k A) (hy : ev f y = .int k' B) (hA : A = (a : Int)) (hB : B = (b : Int)) (hk : k.signed = false) (hd : dstOk n d = true)
    (h : RO P G qs c n h0 ops Q rest (updo f d (.int k ((a * 2 ^ b % 2 ^ k.bits : Nat) : Int))) m) : RO P G qs c n h0 ops Q (⟨d, .binOp .shl T x y T', tt, pos, aft, none⟩ :: rest) f m := by
  subst hA hB
  refine ro_shl hx hy (by omega) hd ?_
  rw [Int.toNat_natCast]
  have e : (a : Int) * 2 ^ (min b k.bits) = ((a * 2 ^ (min b k.bits) : Nat) : Int) := by push_cast; rfl
  rw [e, wrap_u hk]
  have : a * 2 ^ (min b k.bits) % 2 ^ k.bits = a * 2 ^ b % 2 ^ k.bits := by
    rcases Nat.le_total b k.bits with hb | hb
    · rw [Nat.min_eq_left hb]
    · rw [Nat.min_eq_right hb, Nat.mul_mod_left]
      obtain ⟨j, rfl⟩ : ∃ j, b = k.bits + j := ⟨b - k.bits, by omega⟩
      rw [Nat.pow_add, Nat.mul_comm (2 ^ k.bits), ← Nat.mul_assoc, Nat.mul_mod_left]
  rw [this]; exact h
omit ty in
theorem ro_shrM {x y : Operand} {k k' : IntKind} {A B : Int} {a b : Nat} (hx : ev f x = .int k A) (hy : ev f y = .int k' B) (hA : A = (a : Int)) (hB : B = (b : Int)) (hb : b ≤ k.bits) (hd : dstOk n d = true)
    (h : RO P G qs c n h0 ops Q rest (updo f d (.int k ((a / 2 ^ b : Nat) : Int))) m) : RO P G qs c n h0 ops Q (⟨d, .binOp .shr T x y T', tt, pos, aft, none⟩ :: rest) f m := by
  subst hA hB; exact ro_shrN a b hx hy hb hd h
omit ty in
theorem ro_andZ {x y : Operand} {k : IntKind} {A B : Int} {a b r : Nat} (hx : ev f x = .int k A) (hy : ev f y = .int k B) (hA : A = (a : Int)) (hB : B = (b : Int)) (ha : a < 2 ^ capB k) (hb : b < 2 ^ capB k) (hr : a &&& b = r) (hd : dstOk n d = true)
    (h : RO P G qs c n h0 ops Q rest (updo f d (.int k (r : Int))) m) : RO P G qs c n h0 ops Q (⟨d, .binOp .and T x y T', tt, pos, aft, none⟩ :: rest) f m := by
  subst hA hB hr; exact ro_andN a b hx hy ha hb hd h
omit ty in
theorem ro_orZ {x y : Operand} {k : IntKind} {A B : Int} {a b r : Nat} (hx : ev f x = .int k A) (hy : ev f y = .int k B) (hA : A = (a : Int)) (hB : B = (b : Int)) (ha : a < 2 ^ capB k) (hb : b < 2 ^ capB k) (hr : a ||| b = r) (hd : dstOk n d = true)
    (h : RO P G qs c n h0 ops Q rest (updo f d (.int k (r : Int))) m) : RO P G qs c n h0 ops Q (⟨d, .binOp .or T x y T', tt, pos, aft, none⟩ :: rest) f m := by
  subst hA hB hr; exact ro_orN a b hx hy ha hb hd h
omit ty in
theorem ro_xorZ {x y : Operand} {k : IntKind} {A B : Int} {a b : Nat} (hx : ev f x = .int k A) (hy : ev f y = .int k B) (hA : A = (a : Int)) (hB : B = (b : Int)) (ha : a < 2 ^ capB k) (hb : b < 2 ^ capB k) (hd : dstOk n d = true)
    (h : RO P G qs c n h0 ops Q rest (updo f d (.int k ((a ^^^ b : Nat) : Int))) m) : RO P G qs c n h0 ops Q (⟨d, .binOp .xor T x y T', tt, pos, aft, none⟩ :: rest) f m := by
  subst hA hB
  have hle : 2 ^ capB k ≤ 2 ^ k.bits := Nat.pow_le_pow_right (by omega) (capB_le k)
  refine ro_bin hx hy rfl hd ?_
  rw [BitVec.toNat_xor, BitVec.ofInt_natCast, BitVec.ofInt_natCast, BitVec.toNat_ofNat, BitVec.toNat_ofNat, Nat.mod_eq_of_lt (by omega), Nat.mod_eq_of_lt (by omega), wrap_nat (Nat.xor_lt_two_pow ha hb)]
  exact h
omit ty in
/-- Sums and products of unsigned numbers, cut to their size. -/
theorem ro_addU {x y : Operand} {k : IntKind} {A B : Int} {a b : Nat} (hx : ev f x = .int k A) (hy : ev f y = .int k B) (hA : A = (a : Int)) (hB : B = (b : Int)) (hk : k.signed = false) (hd : dstOk n d = true)
    (h : RO P G qs c n h0 ops Q rest (updo f d (.int k (((a + b) % 2 ^ k.bits : Nat) : Int))) m) : RO P G qs c n h0 ops Q (⟨d, .binOp .add T x y T', tt, pos, aft, none⟩ :: rest) f m := by
  subst hA hB
  refine ro_bin hx hy rfl hd ?_
  rw [show (a : Int) + b = ((a + b : Nat) : Int) by push_cast; rfl, wrap_u hk]; exact h
omit ty in
theorem ro_mulU {x y : Operand} {k : IntKind} {A B : Int} {a b : Nat} (hx : ev f x = .int k A) (hy : ev f y = .int k B) (hA : A = (a : Int)) (hB : B = (b : Int)) (hk : k.signed = false) (hd : dstOk n d = true)
    (h : RO P G qs c n h0 ops Q rest (updo f d (.int k ((a * b % 2 ^ k.bits : Nat) : Int))) m) : RO P G qs c n h0 ops Q (⟨d, .binOp .mul T x y T', tt, pos, aft, none⟩ :: rest) f m := by
  subst hA hB
  refine ro_bin hx hy rfl hd ?_
  rw [show (a : Int) * b = ((a * b : Nat) : Int) by push_cast; rfl, wrap_u hk]; exact h

theorem ro_convM {x : Operand} {k k' : IntKind} {A : Int} {a : Nat} (hx : ev f x = .int k A) (hA : A = (a : Int)) (hs : TyC.tk P T = .int k) (ht : TyC.tk P T' = .int k') (hl : a < 2 ^ capB k') (hd : dstOk n d = true)
    (h : RO P G qs c n h0 ops Q rest (updo f d (.int k' (a : Int))) m) : RO P G qs c n h0 ops Q (⟨d, .convert T T' x, tt, pos, aft, none⟩ :: rest) f m := by
  subst hA; exact ro_conv hx hs ht (wrap_nat hl) hd h
theorem ro_convU {x : Operand} {k k' : IntKind} {A : Int} {a : Nat} (hx : ev f x = .int k A) (hA : A = (a : Int)) (hs : TyC.tk P T = .int k) (ht : TyC.tk P T' = .int k') (hk : k'.signed = false) (hd : dstOk n d = true)
    (h : RO P G qs c n h0 ops Q rest (updo f d (.int k' ((a % 2 ^ k'.bits : Nat) : Int))) m) : RO P G qs c n h0 ops Q (⟨d, .convert T T' x, tt, pos, aft, none⟩ :: rest) f m := by
  subst hA; refine ro_convInt hx hs ht hd ?_
  rw [wrap_u hk]; exact h
/-- A narrowing to bytes. -/
theorem ro_conv8 {x : Operand} {k : IntKind} {A : Int} {a : Nat} (hx : ev f x = .int k A) (hA : A = (a : Int)) (hs : TyC.tk P T = .int k) (ht : TyC.tk P T' = .int .u8) (hd : dstOk n d = true)
    (h : RO P G qs c n h0 ops Q rest (updo f d (.int .u8 ((a % 256 : Nat) : Int))) m) : RO P G qs c n h0 ops Q (⟨d, .convert T T' x, tt, pos, aft, none⟩ :: rest) f m :=
  ro_convU (k' := .u8) hx hA hs ht rfl hd h

/-! Places -/
theorem ro_ixM {x y : Operand} {b o len cap : Nat} {k : IntKind} {I : Int} {i e s : Nat} (hx : ev f x = .slice (some ⟨b, o, none⟩) len cap) (hy : ev f y = .int k I) (hI : I = (i : Int)) (hT : TyC.tk P T = .sl e) (hs : TyC.sz P e = s + 1)
    (h2 : i < len) (hd : dstOk n d = true)
    (h : RO P G qs c n h0 ops Q rest (updo f d (.pointer (some ⟨b, o + i * (s + 1), none⟩))) m) : RO P G qs c n h0 ops Q (⟨d, .indexAddr T x y, tt, pos, aft, none⟩ :: rest) f m := by
  subst hI; exact ro_indexSl hx hy hT hs (by omega) (by omega) hd (by simpa using h)
theorem ro_ix1 {x y : Operand} {b o len cap : Nat} {k : IntKind} {I : Int} {i e : Nat} (hx : ev f x = .slice (some ⟨b, o, none⟩) len cap) (hy : ev f y = .int k I) (hI : I = (i : Int)) (hT : TyC.tk P T = .sl e) (hs : TyC.sz P e = 1)
    (h2 : i < len) (hd : dstOk n d = true)
    (h : RO P G qs c n h0 ops Q rest (updo f d (.pointer (some ⟨b, o + i, none⟩))) m) : RO P G qs c n h0 ops Q (⟨d, .indexAddr T x y, tt, pos, aft, none⟩ :: rest) f m := by
  subst hI; exact ro_indexSl1 hx hy hT hs (by omega) (by omega) hd (by simpa using h)
theorem ro_ixA1 {x y : Operand} {b o len : Nat} {k : IntKind} {I : Int} {i e : Nat} (hx : ev f x = .pointer (some ⟨b, o, none⟩)) (hy : ev f y = .int k I) (hI : I = (i : Int)) (hT : TyC.tk P T = .arr len e) (hs : TyC.sz P e = 1)
    (h2 : i < len) (hd : dstOk n d = true)
    (h : RO P G qs c n h0 ops Q rest (updo f d (.pointer (some ⟨b, o + i, none⟩))) m) : RO P G qs c n h0 ops Q (⟨d, .indexAddr T x y, tt, pos, aft, none⟩ :: rest) f m := by
  subst hI; exact ro_indexArr1 hx hy hT hs (by omega) (by omega) hd (by simpa using h)
theorem ro_ixAM {x y : Operand} {b o len : Nat} {k : IntKind} {I : Int} {i e s : Nat} (hx : ev f x = .pointer (some ⟨b, o, none⟩)) (hy : ev f y = .int k I) (hI : I = (i : Int)) (hT : TyC.tk P T = .arr len e) (hs : TyC.sz P e = s + 1)
    (h2 : i < len) (hd : dstOk n d = true)
    (h : RO P G qs c n h0 ops Q rest (updo f d (.pointer (some ⟨b, o + i * (s + 1), none⟩))) m) : RO P G qs c n h0 ops Q (⟨d, .indexAddr T x y, tt, pos, aft, none⟩ :: rest) f m := by
  subst hI; exact ro_indexArr hx hy hT hs (by omega) (by omega) hd (by simpa using h)

/-- A block of whole numbers. -/
def arrB (k : IntKind) (n : Nat) (x : Nat → Nat) (T : TypeId) : Blk := ⟨n, fun i => .int k ((x i : Nat) : Int), T, (0, 0)⟩
def updN (x : Nat → Nat) (i v : Nat) : Nat → Nat := fun j => if j = i then v else x j
theorem updN_same (x : Nat → Nat) (i v : Nat) : updN x i v i = v := if_pos rfl
theorem updN_other (x : Nat → Nat) (i v j : Nat) (h : j ≠ i) : updN x i v j = x j := if_neg h
theorem arrB_st (k : IntKind) (n : Nat) (x : Nat → Nat) (T : TypeId) (i v : Nat) : (arrB k n x T).st i (.int k (v : Int)) = arrB k n (updN x i v) T := by
  unfold arrB Blk.st
  congr 1
  funext j
  by_cases h : j = i
  · subst h; rw [upd_same, updN_same]
  · rw [upd_other _ _ _ _ h, updN_other _ _ _ _ h]
theorem ro_loadArr {x : Operand} {b o : Nat} {k : IntKind} {N : Nat} {y : Nat → Nat} {T1 : TypeId} (hx : ev f x = .pointer (some ⟨b, o, none⟩)) (hT : oneTk (TyC.tk P T) = true) (hm : Has m b (arrB k N y T1)) (hn : o < N) (hd : dstOk n d = true)
    (h : RO P G qs c n h0 ops Q rest (updo f d (.int k ((y o : Nat) : Int))) m) : RO P G qs c n h0 ops Q (⟨d, .load T x, tt, pos, aft, none⟩ :: rest) f m :=
  ro_loadI hx hT hm hn rfl hd h
theorem ro_loadArrG {x : Operand} {b o : Nat} {k : IntKind} {N : Nat} {y : Nat → Nat} {T1 : TypeId} (hx : ev f x = .pointer (some ⟨b, o, none⟩)) (hT : oneTk (TyC.tk P T) = true) (hm : (b, arrB k N y T1) ∈ G) (hn : o < N) (hd : dstOk n d = true)
    (h : RO P G qs c n h0 ops Q rest (updo f d (.int k ((y o : Nat) : Int))) m) : RO P G qs c n h0 ops Q (⟨d, .load T x, tt, pos, aft, none⟩ :: rest) f m :=
  ro_loadA hx hT (List.mem_append.2 (.inr hm)) hn rfl hd h
theorem ro_storeArr {x y : Operand} {b o : Nat} {k : IntKind} {N v : Nat} {A : Int} {z : Nat → Nat} {T1 : TypeId} {m' : Mem} (hx : ev f x = .pointer (some ⟨b, o, none⟩)) (hy : ev f y = .int k A) (hA : A = (v : Int)) (hT : TyC.sz P T = 1)
    (hm : Put m b (arrB k N z T1) (arrB k N (updN z o v) T1) m') (hn : o < N) (hex : h0.ex = false)
    (h : RO P G qs c n h0 ops Q rest f m') : RO P G qs c n h0 ops Q (⟨none, .store T x y, tt, pos, aft, none⟩ :: rest) f m := by
  subst hA
  rw [← arrB_st] at hm
  exact ro_storeI hx hy hT rfl hm hn rfl hex h

end

/-! Joins -/
inductive Vals (f : Fr) : List Nat → List (Nat × Value) → Prop
  | nil : Vals f [] []
  | cons {i : Nat} {v : Value} {l : List Nat} {r : List (Nat × Value)} : f i = v → Vals f l r → Vals f (i :: l) ((i, v) :: r)

section
variable {P : Program} [ty : TyC P] {G : Mem} {c : World} {n : Nat} {h0 : Base} {f : Fr} {m : Mem}

omit ty in
theorem Vals.ok {l : List Nat} {r : List (Nat × Value)} (h : Vals f l r) : slotsOk f r := by
  induction h with
  | nil => trivial
  | cons h1 _ ih => exact ⟨h1, ih⟩
def appS (l r : List (Nat × Value)) : List (Nat × Value) := match l with
  | [] => r
  | p :: l => p :: appS l r

omit ty in
/-- Behind a piece of code: the live slots keep their values, some have new ones. -/
theorem J_join {cd rest : Code} {Q Q' : Exit → Fr → Mem → Prop} (live : List Nat) (chg : List (Nat × Value)) (mem : Mem) {vals : List (Nat × Value)}
    (h1 : J P G c n h0 cd (thenQ (fun f' m' => slotsOk f' (appS chg vals) ∧ MEqv m' mem) Q) f m)
    (h2 : ∀ f', J P G c n h0 rest Q' (setL f' (appS chg vals)) mem)
    (hv : Vals f live vals := by repeat (first | exact Vals.nil | (apply Vals.cons; conv => lhs; whnf))) : J P G c n h0 cd (thenQ (fun f m => J P G c n h0 rest Q' f m) Q) f m := by
  have _ := hv
  exact J_cut _ mem h1 h2
omit ty in
/-- .. and memory is as it was. -/
theorem J_joinK {cd rest : Code} {Q Q' : Exit → Fr → Mem → Prop} (live : List Nat) (chg : List (Nat × Value)) {vals : List (Nat × Value)}
    (h1 : J P G c n h0 cd (thenQ (fun f' m' => slotsOk f' (appS chg vals) ∧ MEqv m' m) Q) f m)
    (h2 : ∀ f', J P G c n h0 rest Q' (setL f' (appS chg vals)) m)
    (hv : Vals f live vals := by repeat (first | exact Vals.nil | (apply Vals.cons; conv => lhs; whnf))) : J P G c n h0 cd (thenQ (fun f m => J P G c n h0 rest Q' f m) Q) f m := by
  have _ := hv
  exact J_cut _ m h1 h2
/-- What a join asks: the slots, the blocks. -/
theorem joined {f : Fr} {m m' : Mem} {l : List (Nat × Value)} (hm : MEqv m m') (hs : slotsOk f l := by repeat (first | exact trivial | refine ⟨by exact rfl, ?_⟩)) : slotsOk f l ∧ MEqv m m' := ⟨hs, hm⟩
omit ty in
/-- .. with a state. -/
theorem J_joinE {σ : Type} {cd rest : Code} {Q Q' : Exit → Fr → Mem → Prop} (live : List Nat) (chg : σ → List (Nat × Value)) (mem : σ → Mem) (inv : σ → Prop) {vals : List (Nat × Value)}
    (h1 : J P G c n h0 cd (thenQ (fun f' m' => ∃ s, inv s ∧ slotsOk f' (appS (chg s) vals) ∧ MEqv m' (mem s)) Q) f m)
    (h2 : ∀ s f', inv s → J P G c n h0 rest Q' (setL f' (appS (chg s) vals)) (mem s))
    (hv : Vals f live vals := by repeat (first | exact Vals.nil | (apply Vals.cons; conv => lhs; whnf))) : J P G c n h0 cd (thenQ (fun f m => J P G c n h0 rest Q' f m) Q) f m := by
  have _ := hv
  exact J_cutE (fun s => appS (chg s) vals) mem inv h1 h2
omit ty in
/-- A loop: live slots that keep their values, and others, by a state. -/
theorem J_loopL {σ : Type} {body : Code} {Q : Exit → Fr → Mem → Prop} (live : List Nat) (chg : σ → List (Nat × Value)) (mem : σ → Mem) (inv : σ → Prop) (meas : σ → Nat) (s0 : σ) {vals : List (Nat × Value)}
    (hm : MEqv m (mem s0)) (hi : inv s0)
    (round : ∀ s f, inv s → J P G c n h0 body (thenQ (fun f' m' => ∃ s', meas s' < meas s ∧ inv s' ∧ slotsOk f' (appS (chg s') vals) ∧ MEqv m' (mem s')) Q) (setL f (appS (chg s) vals)) (mem s))
    (hv : Vals f live vals := by repeat (first | exact Vals.nil | (apply Vals.cons; conv => lhs; whnf))) (hf : slotsOk f (appS (chg s0) vals) := by repeat (first | exact trivial | refine ⟨by exact rfl, ?_⟩)) : J P G c n h0 (.loop body) Q f m := by
  have _ := hv
  exact J_loopS (fun s => appS (chg s) vals) mem inv meas s0 hf hm hi round

end
end Go.Eng
