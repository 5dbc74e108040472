/-
  TEXTS MERGED: EngE, EngF, EngG.
-/
import Derived.Test.YtogmacnlpclgkaaDoorK07
/-! AN ENGINE OF WALKS, PART 14: results that lie in blocks; comparisons that are settled. -/
namespace Go.Eng
open Go

/-- The values of results: slots, or structs in blocks. -/
def resOk (P : Program) [TyC P] (f : Fr) (m : Mem) : List ResultVar → List Value → Prop
  | [], [] => True
  | .tmp t :: rs, v :: vs => f t = v ∧ resOk P f m rs vs
  | .cell a T :: rs, v :: vs => (∃ b o s B, f a = .pointer (some ⟨b, o, none⟩) ∧ aggTk (TyC.tk P T) = true ∧ TyC.sz P T = s + 1 ∧ (b, B) ∈ m ∧ o + (s + 1) ≤ B.n ∧ v = .agg (tabL (s + 1) fun i => B.g (o + i)).toArray) ∧ resOk P f m rs vs
  | _, _ => False

section
variable {P : Program} [ty : TyC P] {G : Mem} {c : World} {h0 : Base} {R : Value → Mem → Prop} {f : Fr} {m : Mem}

theorem results_run {fn : Func} {rs : List ResultVar} {vs : List Value} (hres : fn.results = rs.toArray) {n : Nat} {a : Act} (r : Rep n a f) {w : World} {h : Heap} (hc : At c h w) (ho : Own h0 G m h) (hok : resOk P f m rs vs) :
    (results fn a.tmps).run P w = .ok (retV vs) w := by
  have key : ∀ (rs : List ResultVar) (vs : List Value), resOk P f m rs vs → (rs.mapM (fun | .tmp t => pure (a.tmps.getD t undef) | .cell ad t => do loadVar t (← asAddr (a.tmps.getD ad undef))) : Sem (List Value)).run P w = .ok vs w := by
    intro rs
    induction rs with
    | nil => intro vs hv; cases vs with
      | nil => simp
      | cons _ _ => exact hv.elim
    | cons x rs ih =>
      intro vs hv
      cases vs with
      | nil => cases x <;> exact hv.elim
      | cons v vs =>
        cases x with
        | tmp t =>
          obtain ⟨h1, h2⟩ := hv
          simp only [List.mapM_cons, Sem.run_bind, Sem.run_pure, Result.andThen_ok]
          rw [ih vs h2, r.slot t, h1]
          rfl
        | cell ad T =>
          obtain ⟨⟨b, o, s, B, h1, h2, h3, h4, h5, h6⟩, hr⟩ := hv
          have hb : w.heap[b]? = some B.obj := by rw [hc.1]; exact ho.has _ (List.mem_append.2 (.inl h4))
          have hl : ((do loadVar T (← asAddr (a.tmps.getD ad undef))) : Sem Value).run P w = .ok v w := by
            rw [r.slot ad, h1, h6]
            simp [asAddr, loadVar, run_isAgg_agg h2, run_sizeOf h3 (by omega), run_loadCells_blk hb h5]
          simp only [List.mapM_cons]
          rw [Sem.run_bind, hl]
          simp only [Result.andThen_ok]
          rw [Sem.run_bind, ih vs hr]
          rfl
  unfold results
  rw [hres]
  simp only [Sem.run_bind, List.mapM_toArray, Sem.run_map]
  erw [key rs vs hok]
  simp only [Result.andThen_ok, Sem.run_pure]
  congr 1
  cases vs with
  | nil => simp [retV]
  | cons v vs => cases vs <;> simp [retV]

theorem ends_retC {fn : Func} (rs : List ResultVar) (vs : List Value) {post junk : Mem} (hok : resOk P f m rs vs) (hR : R (retV vs) post) (hres : fn.results = rs.toArray := by exact rfl) (hs : MEqv m (post ++ junk) := by first | exact MEqv.refl _ | (apply SelE.eqv; repeat (first | exact .nil | exact .all | exact .allN | exact .pref | exact .suf | (apply SelE.cons; (first | exact .here (by first | with_reducible rfl | exact blk_tab rfl rfl rfl rfl | exact rfl) | exact .there (.here (by first | with_reducible rfl | exact blk_tab rfl rfl rfl rfl | exact rfl)) | exact .there (.there (.here (by first | with_reducible rfl | exact blk_tab rfl rfl rfl rfl | exact rfl))) | exact .there (.there (.there (.here (by first | with_reducible rfl | exact blk_tab rfl rfl rfl rfl | exact rfl)))) | exact .there (.there (.there (.there (.here (by first | with_reducible rfl | exact blk_tab rfl rfl rfl rfl | exact rfl))))) | exact .there (.there (.there (.there (.there (.here (by first | with_reducible rfl | exact blk_tab rfl rfl rfl rfl | exact rfl)))))) | exact .there (.there (.there (.there (.there (.there (.here (by first | with_reducible rfl | exact blk_tab rfl rfl rfl rfl | exact rfl))))))) | exact .there (.there (.there (.there (.there (.there (.there (.here (by first | with_reducible rfl | exact blk_tab rfl rfl rfl rfl | exact rfl)))))))) | exact .there (.there (.there (.there (.there (.there (.there (.there (.here (by first | with_reducible rfl | exact blk_tab rfl rfl rfl rfl | exact rfl))))))))))) | apply SelE.skip))) :
    Ends P G c fn h0 R .ret f m := ⟨_, post, junk, fun _ _ _ r hc ho => results_run hres r hc ho hok, hs, hR⟩
theorem ends_normalC {fn : Func} (rs : List ResultVar) (vs : List Value) {post junk : Mem} (hok : resOk P f m rs vs) (hR : R (retV vs) post) (hres : fn.results = rs.toArray := by exact rfl) (hs : MEqv m (post ++ junk) := by first | exact MEqv.refl _ | (apply SelE.eqv; repeat (first | exact .nil | exact .all | exact .allN | exact .pref | exact .suf | (apply SelE.cons; (first | exact .here (by first | with_reducible rfl | exact blk_tab rfl rfl rfl rfl | exact rfl) | exact .there (.here (by first | with_reducible rfl | exact blk_tab rfl rfl rfl rfl | exact rfl)) | exact .there (.there (.here (by first | with_reducible rfl | exact blk_tab rfl rfl rfl rfl | exact rfl))) | exact .there (.there (.there (.here (by first | with_reducible rfl | exact blk_tab rfl rfl rfl rfl | exact rfl)))) | exact .there (.there (.there (.there (.here (by first | with_reducible rfl | exact blk_tab rfl rfl rfl rfl | exact rfl))))) | exact .there (.there (.there (.there (.there (.here (by first | with_reducible rfl | exact blk_tab rfl rfl rfl rfl | exact rfl)))))) | exact .there (.there (.there (.there (.there (.there (.here (by first | with_reducible rfl | exact blk_tab rfl rfl rfl rfl | exact rfl))))))) | exact .there (.there (.there (.there (.there (.there (.there (.here (by first | with_reducible rfl | exact blk_tab rfl rfl rfl rfl | exact rfl)))))))) | exact .there (.there (.there (.there (.there (.there (.there (.there (.here (by first | with_reducible rfl | exact blk_tab rfl rfl rfl rfl | exact rfl))))))))))) | apply SelE.skip))) :
    Ends P G c fn h0 R .normal f m := ⟨_, post, junk, fun _ _ _ r hc ho => results_run hres r hc ho hok, hs, hR⟩

variable {qs : List FuncId} {n : Nat} {ops : Array Oper} {Q : Fr → Mem → Prop} {rest : List Oper} {d : Option Tmp} {T T' tt : TypeId} {pos : String} {aft : Array Edge}

omit ty in
theorem ro_notT {x : Operand} (hx : ev f x = .bool true) (hd : dstOk n d = true) (h : RO P G qs c n h0 ops Q rest (updo f d (.bool false)) m) :
    RO P G qs c n h0 ops Q (⟨d, .unOp .not T x, tt, pos, aft, none⟩ :: rest) f m := ro_not hx hd h
omit ty in
theorem ro_notF {x : Operand} (hx : ev f x = .bool false) (hd : dstOk n d = true) (h : RO P G qs c n h0 ops Q rest (updo f d (.bool true)) m) :
    RO P G qs c n h0 ops Q (⟨d, .unOp .not T x, tt, pos, aft, none⟩ :: rest) f m := ro_not hx hd h
theorem ro_neNil0 {x : Operand} {v : Value} (hx : ev f x = v) (hT : TyC.tk P T = .ifc) (hv : nilB v = some true) (hd : dstOk n d = true)
    (h : RO P G qs c n h0 ops Q rest (updo f d (.bool false)) m) : RO P G qs c n h0 ops Q (⟨d, .binOp .neq T x (.const .nilIface) T', tt, pos, aft, none⟩ :: rest) f m := ro_neNil hx hT hv hd h
theorem ro_neNil1 {x : Operand} {v : Value} (hx : ev f x = v) (hT : TyC.tk P T = .ifc) (hv : nilB v = some false) (hd : dstOk n d = true)
    (h : RO P G qs c n h0 ops Q rest (updo f d (.bool true)) m) : RO P G qs c n h0 ops Q (⟨d, .binOp .neq T x (.const .nilIface) T', tt, pos, aft, none⟩ :: rest) f m := ro_neNil hx hT hv hd h

omit ty in
theorem ro_eqIntT {x y : Operand} {k : IntKind} {a b : Int} (hx : ev f x = .int k a) (hy : ev f y = .int k b) (hab : a = b) (hd : dstOk n d = true)
    (h : RO P G qs c n h0 ops Q rest (updo f d (.bool true)) m) : RO P G qs c n h0 ops Q (⟨d, .binOp .eql T x y T', tt, pos, aft, none⟩ :: rest) f m :=
  ro_eqInt hx hy hd (by rw [show decide (a = b) = true from decide_eq_true hab]; exact h)
omit ty in
theorem ro_eqIntF {x y : Operand} {k : IntKind} {a b : Int} (hx : ev f x = .int k a) (hy : ev f y = .int k b) (hab : a ≠ b) (hd : dstOk n d = true)
    (h : RO P G qs c n h0 ops Q rest (updo f d (.bool false)) m) : RO P G qs c n h0 ops Q (⟨d, .binOp .eql T x y T', tt, pos, aft, none⟩ :: rest) f m :=
  ro_eqInt hx hy hd (by rw [show decide (a = b) = false from decide_eq_false hab]; exact h)
theorem ro_eqBoolT {x y : Operand} {a b : Bool} (hx : ev f x = .bool a) (hy : ev f y = .bool b) (hT : TyC.tk P T = .bool) (hab : a = b) (hd : dstOk n d = true)
    (h : RO P G qs c n h0 ops Q rest (updo f d (.bool true)) m) : RO P G qs c n h0 ops Q (⟨d, .binOp .eql T x y T', tt, pos, aft, none⟩ :: rest) f m :=
  ro_eqBool hx hy (u_bool hT) hd (by subst hab; simpa using h)
/-- A part of a slice of one-cell elements, that begins within it. -/
theorem ro_sl (l h : Nat) {x : Operand} {lo hi : Option Operand} {b o len cap e : Nat} (hx : ev f x = .slice (some ⟨b, o, none⟩) len cap) (hT : TyC.tk P T = .sl e) (hs : TyC.sz P e = 1)
    (hl : optInt f lo 0 = some (l : Int)) (hh : optInt f hi len = some (h : Int)) (h1 : l ≤ h) (h2 : h ≤ cap) (h3 : l < cap) (hd : dstOk n d = true)
    (hk : RO P G qs c n h0 ops Q rest (updo f d (.slice (some ⟨b, o + l, none⟩) (h - l) (cap - l))) m) :
    RO P G qs c n h0 ops Q (⟨d, .slice T x lo hi none, tt, pos, aft, none⟩ :: rest) f m := by
  refine ro_slice (s := 0) hx hT hs hl hh (by omega) (by omega) (by omega) hd ?_
  have : sOff o (l : Int).toNat (0 + 1) cap = o + l := by unfold sOff; rw [if_neg (by simp; omega)]; simp
  rw [this]
  simpa using hk
/-- .. from its begin on. -/
theorem ro_slTo (h : Nat) {x : Operand} {hi : Option Operand} {b o len cap e s : Nat} (hx : ev f x = .slice (some ⟨b, o, none⟩) len cap) (hT : TyC.tk P T = .sl e) (hs : TyC.sz P e = s + 1)
    (hh : optInt f hi len = some (h : Int)) (h2 : h ≤ cap) (hd : dstOk n d = true)
    (hk : RO P G qs c n h0 ops Q rest (updo f d (.slice (some ⟨b, o, none⟩) h cap)) m) :
    RO P G qs c n h0 ops Q (⟨d, .slice T x none hi none, tt, pos, aft, none⟩ :: rest) f m := by
  refine ro_slice (s := s) (l := 0) (lo := none) hx hT hs rfl hh (by omega) (by omega) (by omega) hd ?_
  have : sOff o (0 : Int).toNat (s + 1) cap = o := by unfold sOff; split <;> simp
  rw [this]
  simpa using hk
/-- A part of an array of one-cell elements, that begins within it. -/
theorem ro_arr (l h : Nat) {x : Operand} {lo hi : Option Operand} {b o k e : Nat} (hx : ev f x = .pointer (some ⟨b, o, none⟩)) (hT : TyC.tk P T = .arr k e) (hs : TyC.sz P e = 1)
    (hl : optInt f lo 0 = some (l : Int)) (hh : optInt f hi k = some (h : Int)) (h1 : l ≤ h) (h2 : h ≤ k) (h3 : l < k) (hd : dstOk n d = true)
    (hk : RO P G qs c n h0 ops Q rest (updo f d (.slice (some ⟨b, o + l, none⟩) (h - l) (k - l))) m) :
    RO P G qs c n h0 ops Q (⟨d, .slice T x lo hi none, tt, pos, aft, none⟩ :: rest) f m := by
  refine ro_sliceArr (s := 0) hx hT hs hl hh (by omega) (by omega) (by omega) hd ?_
  have : sOff o (l : Int).toNat (0 + 1) k = o + l := by unfold sOff; rw [if_neg (by simp; omega)]; simp
  rw [this]
  simpa using hk
theorem ro_arrTo (h : Nat) {x : Operand} {hi : Option Operand} {b o k e s : Nat} (hx : ev f x = .pointer (some ⟨b, o, none⟩)) (hT : TyC.tk P T = .arr k e) (hs : TyC.sz P e = s + 1)
    (hh : optInt f hi k = some (h : Int)) (h2 : h ≤ k) (hd : dstOk n d = true)
    (hk : RO P G qs c n h0 ops Q rest (updo f d (.slice (some ⟨b, o, none⟩) h k)) m) :
    RO P G qs c n h0 ops Q (⟨d, .slice T x none hi none, tt, pos, aft, none⟩ :: rest) f m := by
  refine ro_sliceArr (s := s) (l := 0) (lo := none) hx hT hs rfl hh (by omega) (by omega) (by omega) hd ?_
  have : sOff o (0 : Int).toNat (s + 1) k = o := by unfold sOff; split <;> simp
  rw [this]
  simpa using hk

omit ty in
theorem ro_wantG {op : Op} {g : Nat × Bool} (hw : wantedF ops f ⟨d, op, tt, pos, aft, some g⟩ = true) (h : RO P G qs c n h0 ops Q (⟨d, op, tt, pos, aft, none⟩ :: rest) f m) : RO P G qs c n h0 ops Q (⟨d, op, tt, pos, aft, some g⟩ :: rest) f m :=
  ro_want hw h
omit ty in
theorem ro_unwantG {op : Op} {g : Nat × Bool} (hw : wantedF ops f ⟨d, op, tt, pos, aft, some g⟩ = false) (hd : dstOk n d = true) (h : RO P G qs c n h0 ops Q rest (updo f d undef) m) : RO P G qs c n h0 ops Q (⟨d, op, tt, pos, aft, some g⟩ :: rest) f m :=
  ro_unwant hd hw h

end
end Go.Eng

/-! AN ENGINE OF WALKS, PART 15: bits of natural numbers; cuts. -/
namespace Go.Eng
open Go

/-- The code behind the first so many statements; a function's code behind its one label. -/
def seqDrop : Nat → Code → Code
  | 0, c => c
  | k + 1, .seq _ c => seqDrop k c
  | _ + 1, c => c
def scopeBody : Option Code → Code
  | some (.seq _ (.scope (.seq _ B))) => B
  | _ => .skip
def codeOf : Option Code → Code
  | some c => c
  | none => .skip

/-- How many bits a number of a kind has that is not below 0. -/
def capB : IntKind → Nat
  | .i8 => 7 | .i16 => 15 | .i32 => 31 | .i64 => 63
  | .u8 => 8 | .u16 => 16 | .u32 => 32 | .u64 => 64
theorem capB_le (k : IntKind) : capB k ≤ k.bits := by cases k <;> decide
theorem wrap_nat {k : IntKind} {a : Nat} (h : a < 2 ^ capB k) : k.wrap (a : Int) = a := by
  cases k <;> simp only [capB] at h <;> simp [IntKind.wrap, IntKind.bits, IntKind.signed] <;> omega

section
variable {P : Program} [ty : TyC P] {G : Mem} {qs : List FuncId} {c : World} {n : Nat} {h0 : Base} {ops : Array Oper} {Q : Fr → Mem → Prop} {rest : List Oper} {f : Fr} {m : Mem}
variable {d : Option Tmp} {T T' tt : TypeId} {pos : String} {aft : Array Edge}

omit ty in
theorem ro_andN (a b : Nat) {x y : Operand} {k : IntKind} (hx : ev f x = .int k (a : Int)) (hy : ev f y = .int k (b : Int)) (ha : a < 2 ^ capB k) (hb : b < 2 ^ capB k) (hd : dstOk n d = true)
    (h : RO P G qs c n h0 ops Q rest (updo f d (.int k ((a &&& b : Nat) : Int))) m) : RO P G qs c n h0 ops Q (⟨d, .binOp .and T x y T', tt, pos, aft, none⟩ :: rest) f m := by
  have hle : 2 ^ capB k ≤ 2 ^ k.bits := Nat.pow_le_pow_right (by omega) (capB_le k)
  refine ro_bin hx hy rfl hd ?_
  rw [BitVec.toNat_and, BitVec.ofInt_natCast, BitVec.ofInt_natCast, BitVec.toNat_ofNat, BitVec.toNat_ofNat, Nat.mod_eq_of_lt (by omega), Nat.mod_eq_of_lt (by omega), wrap_nat (Nat.lt_of_le_of_lt Nat.and_le_left ha)]
  exact h
omit ty in
theorem ro_orN (a b : Nat) {x y : Operand} {k : IntKind} (hx : ev f x = .int k (a : Int)) (hy : ev f y = .int k (b : Int)) (ha : a < 2 ^ capB k) (hb : b < 2 ^ capB k) (hd : dstOk n d = true)
    (h : RO P G qs c n h0 ops Q rest (updo f d (.int k ((a ||| b : Nat) : Int))) m) : RO P G qs c n h0 ops Q (⟨d, .binOp .or T x y T', tt, pos, aft, none⟩ :: rest) f m := by
  have hle : 2 ^ capB k ≤ 2 ^ k.bits := Nat.pow_le_pow_right (by omega) (capB_le k)
  refine ro_bin hx hy rfl hd ?_
  rw [BitVec.toNat_or, BitVec.ofInt_natCast, BitVec.ofInt_natCast, BitVec.toNat_ofNat, BitVec.toNat_ofNat, Nat.mod_eq_of_lt (by omega), Nat.mod_eq_of_lt (by omega), wrap_nat (Nat.or_lt_two_pow ha hb)]
  exact h
omit ty in
theorem ro_shlN (a b : Nat) {x y : Operand} {k k' : IntKind} (hx : ev f x = .int k (a : Int)) (hy : ev f y = .int k' (b : Int)) (hb : b ≤ k.bits) (hlt : a * 2 ^ b < 2 ^ capB k) (hd : dstOk n d = true)
    (h : RO P G qs c n h0 ops Q rest (updo f d (.int k ((a * 2 ^ b : Nat) : Int))) m) : RO P G qs c n h0 ops Q (⟨d, .binOp .shl T x y T', tt, pos, aft, none⟩ :: rest) f m := by
  refine ro_shl hx hy (by omega) hd ?_
  rw [Int.toNat_natCast, Nat.min_eq_left hb]
  have : (a : Int) * 2 ^ b = ((a * 2 ^ b : Nat) : Int) := by push_cast; rfl
  rw [this, wrap_nat hlt]
  exact h
omit ty in
theorem ro_shrN (a b : Nat) {x y : Operand} {k k' : IntKind} (hx : ev f x = .int k (a : Int)) (hy : ev f y = .int k' (b : Int)) (hb : b ≤ k.bits) (hd : dstOk n d = true)
    (h : RO P G qs c n h0 ops Q rest (updo f d (.int k ((a / 2 ^ b : Nat) : Int))) m) : RO P G qs c n h0 ops Q (⟨d, .binOp .shr T x y T', tt, pos, aft, none⟩ :: rest) f m := by
  refine ro_shr hx hy (by omega) hd ?_
  rw [Int.toNat_natCast, Nat.min_eq_left hb, fdiv_pow]
  have : (a : Int) / 2 ^ b = ((a / 2 ^ b : Nat) : Int) := by push_cast; rfl
  rw [this]
  exact h
omit ty in
theorem ro_quoN (a b : Nat) {x y : Operand} {k : IntKind} (hx : ev f x = .int k (a : Int)) (hy : ev f y = .int k (b : Int)) (hb : b ≠ 0) (ha : a < 2 ^ capB k) (hd : dstOk n d = true)
    (h : RO P G qs c n h0 ops Q rest (updo f d (.int k ((a / b : Nat) : Int))) m) : RO P G qs c n h0 ops Q (⟨d, .binOp .quo T x y T', tt, pos, aft, none⟩ :: rest) f m := by
  refine ro_quo hx hy (by omega) hd ?_
  have : (a : Int).tdiv b = ((a / b : Nat) : Int) := by rw [Int.tdiv_eq_ediv_of_nonneg (by omega)]; push_cast; rfl
  rw [this, wrap_nat (Nat.lt_of_le_of_lt (Nat.div_le_self _ _) ha)]
  exact h
omit ty in
theorem ro_mulN (a b : Nat) {x y : Operand} {k : IntKind} (hx : ev f x = .int k (a : Int)) (hy : ev f y = .int k (b : Int)) (ha : a * b < 2 ^ capB k) (hd : dstOk n d = true)
    (h : RO P G qs c n h0 ops Q rest (updo f d (.int k ((a * b : Nat) : Int))) m) : RO P G qs c n h0 ops Q (⟨d, .binOp .mul T x y T', tt, pos, aft, none⟩ :: rest) f m := by
  have : (a : Int) * b = ((a * b : Nat) : Int) := by push_cast; rfl
  refine ro_mul hx hy ?_ hd ?_
  · rw [this, wrap_nat ha]
  · rw [this]; exact h
omit ty in
theorem ro_addN (a b : Nat) {x y : Operand} {k : IntKind} (hx : ev f x = .int k (a : Int)) (hy : ev f y = .int k (b : Int)) (ha : a + b < 2 ^ capB k) (hd : dstOk n d = true)
    (h : RO P G qs c n h0 ops Q rest (updo f d (.int k ((a + b : Nat) : Int))) m) : RO P G qs c n h0 ops Q (⟨d, .binOp .add T x y T', tt, pos, aft, none⟩ :: rest) f m := by
  have : (a : Int) + b = ((a + b : Nat) : Int) := by push_cast; rfl
  refine ro_add hx hy ?_ hd ?_
  · rw [this, wrap_nat ha]
  · rw [this]; exact h
omit ty in
theorem ro_subN (a b : Nat) {x y : Operand} {k : IntKind} (hx : ev f x = .int k (a : Int)) (hy : ev f y = .int k (b : Int)) (hba : b ≤ a) (ha : a < 2 ^ capB k) (hd : dstOk n d = true)
    (h : RO P G qs c n h0 ops Q rest (updo f d (.int k ((a - b : Nat) : Int))) m) : RO P G qs c n h0 ops Q (⟨d, .binOp .sub T x y T', tt, pos, aft, none⟩ :: rest) f m := by
  have : (a : Int) - b = ((a - b : Nat) : Int) := by omega
  refine ro_sub hx hy ?_ hd ?_
  · rw [this, wrap_nat (by omega)]
  · rw [this]; exact h
omit ty in
theorem ro_convN (a : Nat) {x : Operand} {k k' : IntKind} {T1 T2 : TypeId} (hx : ev f x = .int k (a : Int)) (h1 : P.underlying T1 = some (.int k)) (h2 : P.underlying T2 = some (.int k')) (ha : a < 2 ^ capB k') (hd : dstOk n d = true)
    (hh : ∀ w, (execOp (ev f) ⟨d, .convert T1 T2 x, tt, pos, aft, none⟩).run P w = .ok (.value (.int k' (k'.wrap (a : Int)))) w)
    (h : RO P G qs c n h0 ops Q rest (updo f d (.int k' (a : Int))) m) : RO P G qs c n h0 ops Q (⟨d, .convert T1 T2 x, tt, pos, aft, none⟩ :: rest) f m := by
  have _ := hx; have _ := h1; have _ := h2
  refine ro_pureC cls_conv rfl hd hh ?_
  rw [wrap_nat ha]
  exact h

omit ty in
theorem ro_neIntB (r : Bool) {x y : Operand} {k : IntKind} {a b : Int} (hx : ev f x = .int k a) (hy : ev f y = .int k b) (hr : (a ≠ b) ↔ r = true) (hd : dstOk n d = true)
    (h : RO P G qs c n h0 ops Q rest (updo f d (.bool r)) m) : RO P G qs c n h0 ops Q (⟨d, .binOp .neq T x y T', tt, pos, aft, none⟩ :: rest) f m :=
  ro_neInt hx hy hd (by
    have : decide (a ≠ b) = r := by cases r <;> simp_all
    first | (rw [this]; exact h) | (simp only [ne_eq] at this ⊢; rw [this]; exact h))
omit ty in
theorem ro_eqIntB (r : Bool) {x y : Operand} {k : IntKind} {a b : Int} (hx : ev f x = .int k a) (hy : ev f y = .int k b) (hr : (a = b) ↔ r = true) (hd : dstOk n d = true)
    (h : RO P G qs c n h0 ops Q rest (updo f d (.bool r)) m) : RO P G qs c n h0 ops Q (⟨d, .binOp .eql T x y T', tt, pos, aft, none⟩ :: rest) f m :=
  ro_eqInt hx hy hd (by
    have : decide (a = b) = r := by cases r <;> simp_all
    rw [this]; exact h)

omit ty in
/-- A cut: what is known behind a piece of code, and no more. -/
theorem J_cut {cd rest : Code} {Q Q' : Exit → Fr → Mem → Prop} (slots : List (Nat × Value)) (mem : Mem) (h1 : J P G c n h0 cd (thenQ (fun f' m' => slotsOk f' slots ∧ MEqv m' mem) Q) f m)
    (h2 : ∀ f', J P G c n h0 rest Q' (setL f' slots) mem) : J P G c n h0 cd (thenQ (fun f m => J P G c n h0 rest Q' f m) Q) f m := by
  refine J_mono h1 ?_
  intro e f' m' h
  cases e <;> first | exact h | skip
  obtain ⟨hs, hm⟩ := h
  have := h2 f'
  rw [setL_of hs] at this
  exact J_eqv hm this
omit ty in
/-- .. and what has been learnt. -/
theorem J_cutP {cd rest : Code} {Q Q' : Exit → Fr → Mem → Prop} (p : Prop) (slots : List (Nat × Value)) (mem : Mem) (h1 : J P G c n h0 cd (thenQ (fun f' m' => p ∧ slotsOk f' slots ∧ MEqv m' mem) Q) f m)
    (h2 : p → ∀ f', J P G c n h0 rest Q' (setL f' slots) mem) : J P G c n h0 cd (thenQ (fun f m => J P G c n h0 rest Q' f m) Q) f m := by
  refine J_mono h1 ?_
  intro e f' m' h
  cases e <;> first | exact h | skip
  obtain ⟨hp, hs, hm⟩ := h
  have := h2 hp f'
  rw [setL_of hs] at this
  exact J_eqv hm this
omit ty in
/-- .. with a state. -/
theorem J_cutE {σ : Type} {cd rest : Code} {Q Q' : Exit → Fr → Mem → Prop} (slots : σ → List (Nat × Value)) (mem : σ → Mem) (inv : σ → Prop) (h1 : J P G c n h0 cd (thenQ (fun f' m' => ∃ s, inv s ∧ slotsOk f' (slots s) ∧ MEqv m' (mem s)) Q) f m)
    (h2 : ∀ s f', inv s → J P G c n h0 rest Q' (setL f' (slots s)) (mem s)) : J P G c n h0 cd (thenQ (fun f m => J P G c n h0 rest Q' f m) Q) f m := by
  refine J_mono h1 ?_
  intro e f' m' h
  cases e <;> first | exact h | skip
  obtain ⟨s, hi, hs, hm⟩ := h
  have := h2 s f' hi
  rw [setL_of hs] at this
  exact J_eqv hm this
omit ty in
/-- .. at a place between two pieces. -/
theorem J_cutHere {cd : Code} {Q' : Exit → Fr → Mem → Prop} (slots : List (Nat × Value)) (mem : Mem) (hs : slotsOk f slots) (hm : MEqv m mem)
    (h2 : ∀ f', J P G c n h0 cd Q' (setL f' slots) mem) : J P G c n h0 cd Q' f m := by
  have := h2 f
  rw [setL_of hs] at this
  exact J_eqv hm this

end
end Go.Eng

/-! AN ENGINE OF WALKS, PART 16: natural numbers throughout; blocks of whole numbers; joins and loops that name what is live. -/
namespace Go.Eng
open Go

theorem lit_cast (c : Nat) : (OfNat.ofNat c : Int) = ((OfNat.ofNat c : Nat) : Int) := rfl
theorem lim8 {a : Nat} (h : a < 256) : a < 2 ^ capB .u8 := h
theorem lim16 {a : Nat} (h : a < 65536) : a < 2 ^ capB .u16 := h
theorem lim32 {a : Nat} (h : a < 4294967296) : a < 2 ^ capB .u32 := h
theorem lim64 {a : Nat} (h : a < 18446744073709551616) : a < 2 ^ capB .u64 := h
theorem limi8 {a : Nat} (h : a < 128) : a < 2 ^ capB .i8 := h
theorem limi16 {a : Nat} (h : a < 32768) : a < 2 ^ capB .i16 := h
theorem limi32 {a : Nat} (h : a < 2147483648) : a < 2 ^ capB .i32 := h
theorem limi64 {a : Nat} (h : a < 9223372036854775808) : a < 2 ^ capB .i64 := h

theorem and_1 (a : Nat) : a &&& 1 = a % 2 := Nat.and_two_pow_sub_one_eq_mod a 1
theorem and_3 (a : Nat) : a &&& 3 = a % 4 := Nat.and_two_pow_sub_one_eq_mod a 2
theorem and_7 (a : Nat) : a &&& 7 = a % 8 := Nat.and_two_pow_sub_one_eq_mod a 3
theorem and_15 (a : Nat) : a &&& 15 = a % 16 := Nat.and_two_pow_sub_one_eq_mod a 4
theorem and_31 (a : Nat) : a &&& 31 = a % 32 := Nat.and_two_pow_sub_one_eq_mod a 5
theorem and_63 (a : Nat) : a &&& 63 = a % 64 := Nat.and_two_pow_sub_one_eq_mod a 6
theorem and_255 (a : Nat) : a &&& 255 = a % 256 := Nat.and_two_pow_sub_one_eq_mod a 8
theorem and_4095 (a : Nat) : a &&& 4095 = a % 4096 := Nat.and_two_pow_sub_one_eq_mod a 12
theorem and_24 (a : Nat) : a &&& 16777215 = a % 16777216 := Nat.and_two_pow_sub_one_eq_mod a 24

/-- The wrap of an unsigned kind. -/
theorem wrap_u {k : IntKind} (hk : k.signed = false) (a : Nat) : k.wrap (a : Int) = ((a % 2 ^ k.bits : Nat) : Int) := by
  cases k <;> first | (cases hk; done) | (simp [IntKind.wrap, IntKind.bits, IntKind.signed])

section
variable {P : Program} [ty : TyC P] {G : Mem} {qs : List FuncId} {c : World} {n : Nat} {h0 : Base} {ops : Array Oper} {Q : Fr → Mem → Prop} {rest : List Oper} {f : Fr} {m : Mem}
variable {d : Option Tmp} {T T' tt : TypeId} {pos : String} {aft : Array Edge}

omit ty in
theorem ro_addM {x y : Operand} {k : IntKind} {A B : Int} {a b : Nat} (hx : ev f x = .int k A) (hy : ev f y = .int k B) (hA : A = (a : Int)) (hB : B = (b : Int)) (hl : a + b < 2 ^ capB k) (hd : dstOk n d = true)
    (h : RO P G qs c n h0 ops Q rest (updo f d (.int k ((a + b : Nat) : Int))) m) : RO P G qs c n h0 ops Q (⟨d, .binOp .add T x y T', tt, pos, aft, none⟩ :: rest) f m := by
  subst hA hB; exact ro_addN a b hx hy hl hd h
omit ty in
theorem ro_subM {x y : Operand} {k : IntKind} {A B : Int} {a b : Nat} (hx : ev f x = .int k A) (hy : ev f y = .int k B) (hA : A = (a : Int)) (hB : B = (b : Int)) (hle : b ≤ a) (hl : a < 2 ^ capB k) (hd : dstOk n d = true)
    (h : RO P G qs c n h0 ops Q rest (updo f d (.int k ((a - b : Nat) : Int))) m) : RO P G qs c n h0 ops Q (⟨d, .binOp .sub T x y T', tt, pos, aft, none⟩ :: rest) f m := by
  subst hA hB; exact ro_subN a b hx hy hle hl hd h
omit ty in
theorem ro_mulM {x y : Operand} {k : IntKind} {A B : Int} {a b : Nat} (hx : ev f x = .int k A) (hy : ev f y = .int k B) (hA : A = (a : Int)) (hB : B = (b : Int)) (hl : a * b < 2 ^ capB k) (hd : dstOk n d = true)
    (h : RO P G qs c n h0 ops Q rest (updo f d (.int k ((a * b : Nat) : Int))) m) : RO P G qs c n h0 ops Q (⟨d, .binOp .mul T x y T', tt, pos, aft, none⟩ :: rest) f m := by
  subst hA hB; exact ro_mulN a b hx hy hl hd h
omit ty in
theorem ro_quoM {x y : Operand} {k : IntKind} {A B : Int} {a b : Nat} (hx : ev f x = .int k A) (hy : ev f y = .int k B) (hA : A = (a : Int)) (hB : B = (b : Int)) (hb : b ≠ 0) (hl : a < 2 ^ capB k) (hd : dstOk n d = true)
    (h : RO P G qs c n h0 ops Q rest (updo f d (.int k ((a / b : Nat) : Int))) m) : RO P G qs c n h0 ops Q (⟨d, .binOp .quo T x y T', tt, pos, aft, none⟩ :: rest) f m := by
  subst hA hB; exact ro_quoN a b hx hy hb hl hd h
omit ty in
theorem ro_remM {x y : Operand} {k : IntKind} {A B : Int} {a b : Nat} (hx : ev f x = .int k A) (hy : ev f y = .int k B) (hA : A = (a : Int)) (hB : B = (b : Int)) (hb : b ≠ 0) (hd : dstOk n d = true)
    (h : RO P G qs c n h0 ops Q rest (updo f d (.int k ((a % b : Nat) : Int))) m) : RO P G qs c n h0 ops Q (⟨d, .binOp .rem T x y T', tt, pos, aft, none⟩ :: rest) f m := by
  subst hA hB
  refine ro_rem hx hy (by omega) hd ?_
  have : (a : Int).tmod b = ((a % b : Nat) : Int) := by rw [Int.tmod_eq_emod_of_nonneg (by omega)]; push_cast; rfl
  rw [this]; exact h
omit ty in
theorem ro_shlM {x y : Operand} {k k' : IntKind} {A B : Int} {a b : Nat} (hx : ev f x = .int k A) (hy : ev f y = .int k' B) (hA : A = (a : Int)) (hB : B = (b : Int)) (hb : b ≤ k.bits) (hl : a * 2 ^ b < 2 ^ capB k) (hd : dstOk n d = true)
    (h : RO P G qs c n h0 ops Q rest (updo f d (.int k ((a * 2 ^ b : Nat) : Int))) m) : RO P G qs c n h0 ops Q (⟨d, .binOp .shl T x y T', tt, pos, aft, none⟩ :: rest) f m := by
  subst hA hB; exact ro_shlN a b hx hy hb hl hd h
omit ty in
/-- A shift that may lose bits. -/
theorem ro_shlU {x y : Operand} {k k' : IntKind} {A B : Int} {a b : Nat} (hx : ev f x = .int k A) (hy : ev f y = .int k' B) (hA : A = (a : Int)) (hB : B = (b : Int)) (hk : k.signed = false) (hd : dstOk n d = true)
    (h : RO P G qs c n h0 ops Q rest (updo f d (.int k ((a * 2 ^ b % 2 ^ k.bits : Nat) : Int))) m) : RO P G qs c n h0 ops Q (⟨d, .binOp .shl T x y T', tt, pos, aft, none⟩ :: rest) f m := by
  subst hA hB
  refine ro_shl hx hy (by omega) hd ?_
  rw [Int.toNat_natCast]
  have e : (a : Int) * 2 ^ (min b k.bits) = ((a * 2 ^ (min b k.bits) : Nat) : Int) := by push_cast; rfl
  rw [e, wrap_u hk]
  have : a * 2 ^ (min b k.bits) % 2 ^ k.bits = a * 2 ^ b % 2 ^ k.bits := by
    rcases Nat.le_total b k.bits with hb | hb
    · rw [Nat.min_eq_left hb]
    · rw [Nat.min_eq_right hb, Nat.mul_mod_left]
      obtain ⟨j, rfl⟩ : ∃ j, b = k.bits + j := ⟨b - k.bits, by omega⟩
      rw [Nat.pow_add, Nat.mul_comm (2 ^ k.bits), ← Nat.mul_assoc, Nat.mul_mod_left]
  rw [this]; exact h
omit ty in
theorem ro_shrM {x y : Operand} {k k' : IntKind} {A B : Int} {a b : Nat} (hx : ev f x = .int k A) (hy : ev f y = .int k' B) (hA : A = (a : Int)) (hB : B = (b : Int)) (hb : b ≤ k.bits) (hd : dstOk n d = true)
    (h : RO P G qs c n h0 ops Q rest (updo f d (.int k ((a / 2 ^ b : Nat) : Int))) m) : RO P G qs c n h0 ops Q (⟨d, .binOp .shr T x y T', tt, pos, aft, none⟩ :: rest) f m := by
  subst hA hB; exact ro_shrN a b hx hy hb hd h
omit ty in
theorem ro_andZ {x y : Operand} {k : IntKind} {A B : Int} {a b r : Nat} (hx : ev f x = .int k A) (hy : ev f y = .int k B) (hA : A = (a : Int)) (hB : B = (b : Int)) (ha : a < 2 ^ capB k) (hb : b < 2 ^ capB k) (hr : a &&& b = r) (hd : dstOk n d = true)
    (h : RO P G qs c n h0 ops Q rest (updo f d (.int k (r : Int))) m) : RO P G qs c n h0 ops Q (⟨d, .binOp .and T x y T', tt, pos, aft, none⟩ :: rest) f m := by
  subst hA hB hr; exact ro_andN a b hx hy ha hb hd h
omit ty in
theorem ro_orZ {x y : Operand} {k : IntKind} {A B : Int} {a b r : Nat} (hx : ev f x = .int k A) (hy : ev f y = .int k B) (hA : A = (a : Int)) (hB : B = (b : Int)) (ha : a < 2 ^ capB k) (hb : b < 2 ^ capB k) (hr : a ||| b = r) (hd : dstOk n d = true)
    (h : RO P G qs c n h0 ops Q rest (updo f d (.int k (r : Int))) m) : RO P G qs c n h0 ops Q (⟨d, .binOp .or T x y T', tt, pos, aft, none⟩ :: rest) f m := by
  subst hA hB hr; exact ro_orN a b hx hy ha hb hd h
omit ty in
theorem ro_xorZ {x y : Operand} {k : IntKind} {A B : Int} {a b : Nat} (hx : ev f x = .int k A) (hy : ev f y = .int k B) (hA : A = (a : Int)) (hB : B = (b : Int)) (ha : a < 2 ^ capB k) (hb : b < 2 ^ capB k) (hd : dstOk n d = true)
    (h : RO P G qs c n h0 ops Q rest (updo f d (.int k ((a ^^^ b : Nat) : Int))) m) : RO P G qs c n h0 ops Q (⟨d, .binOp .xor T x y T', tt, pos, aft, none⟩ :: rest) f m := by
  subst hA hB
  have hle : 2 ^ capB k ≤ 2 ^ k.bits := Nat.pow_le_pow_right (by omega) (capB_le k)
  refine ro_bin hx hy rfl hd ?_
  rw [BitVec.toNat_xor, BitVec.ofInt_natCast, BitVec.ofInt_natCast, BitVec.toNat_ofNat, BitVec.toNat_ofNat, Nat.mod_eq_of_lt (by omega), Nat.mod_eq_of_lt (by omega), wrap_nat (Nat.xor_lt_two_pow ha hb)]
  exact h
omit ty in
/-- Sums and products of unsigned numbers, cut to their size. -/
theorem ro_addU {x y : Operand} {k : IntKind} {A B : Int} {a b : Nat} (hx : ev f x = .int k A) (hy : ev f y = .int k B) (hA : A = (a : Int)) (hB : B = (b : Int)) (hk : k.signed = false) (hd : dstOk n d = true)
    (h : RO P G qs c n h0 ops Q rest (updo f d (.int k (((a + b) % 2 ^ k.bits : Nat) : Int))) m) : RO P G qs c n h0 ops Q (⟨d, .binOp .add T x y T', tt, pos, aft, none⟩ :: rest) f m := by
  subst hA hB
  refine ro_bin hx hy rfl hd ?_
  rw [show (a : Int) + b = ((a + b : Nat) : Int) by push_cast; rfl, wrap_u hk]; exact h
omit ty in
theorem ro_mulU {x y : Operand} {k : IntKind} {A B : Int} {a b : Nat} (hx : ev f x = .int k A) (hy : ev f y = .int k B) (hA : A = (a : Int)) (hB : B = (b : Int)) (hk : k.signed = false) (hd : dstOk n d = true)
    (h : RO P G qs c n h0 ops Q rest (updo f d (.int k ((a * b % 2 ^ k.bits : Nat) : Int))) m) : RO P G qs c n h0 ops Q (⟨d, .binOp .mul T x y T', tt, pos, aft, none⟩ :: rest) f m := by
  subst hA hB
  refine ro_bin hx hy rfl hd ?_
  rw [show (a : Int) * b = ((a * b : Nat) : Int) by push_cast; rfl, wrap_u hk]; exact h

theorem ro_convM {x : Operand} {k k' : IntKind} {A : Int} {a : Nat} (hx : ev f x = .int k A) (hA : A = (a : Int)) (hs : TyC.tk P T = .int k) (ht : TyC.tk P T' = .int k') (hl : a < 2 ^ capB k') (hd : dstOk n d = true)
    (h : RO P G qs c n h0 ops Q rest (updo f d (.int k' (a : Int))) m) : RO P G qs c n h0 ops Q (⟨d, .convert T T' x, tt, pos, aft, none⟩ :: rest) f m := by
  subst hA; exact ro_conv hx hs ht (wrap_nat hl) hd h
theorem ro_convU {x : Operand} {k k' : IntKind} {A : Int} {a : Nat} (hx : ev f x = .int k A) (hA : A = (a : Int)) (hs : TyC.tk P T = .int k) (ht : TyC.tk P T' = .int k') (hk : k'.signed = false) (hd : dstOk n d = true)
    (h : RO P G qs c n h0 ops Q rest (updo f d (.int k' ((a % 2 ^ k'.bits : Nat) : Int))) m) : RO P G qs c n h0 ops Q (⟨d, .convert T T' x, tt, pos, aft, none⟩ :: rest) f m := by
  subst hA; refine ro_convInt hx hs ht hd ?_
  rw [wrap_u hk]; exact h
/-- A narrowing to bytes. -/
theorem ro_conv8 {x : Operand} {k : IntKind} {A : Int} {a : Nat} (hx : ev f x = .int k A) (hA : A = (a : Int)) (hs : TyC.tk P T = .int k) (ht : TyC.tk P T' = .int .u8) (hd : dstOk n d = true)
    (h : RO P G qs c n h0 ops Q rest (updo f d (.int .u8 ((a % 256 : Nat) : Int))) m) : RO P G qs c n h0 ops Q (⟨d, .convert T T' x, tt, pos, aft, none⟩ :: rest) f m :=
  ro_convU (k' := .u8) hx hA hs ht rfl hd h

/-! Places -/
theorem ro_ixM {x y : Operand} {b o len cap : Nat} {k : IntKind} {I : Int} {i e s : Nat} (hx : ev f x = .slice (some ⟨b, o, none⟩) len cap) (hy : ev f y = .int k I) (hI : I = (i : Int)) (hT : TyC.tk P T = .sl e) (hs : TyC.sz P e = s + 1)
    (h2 : i < len) (hd : dstOk n d = true)
    (h : RO P G qs c n h0 ops Q rest (updo f d (.pointer (some ⟨b, o + i * (s + 1), none⟩))) m) : RO P G qs c n h0 ops Q (⟨d, .indexAddr T x y, tt, pos, aft, none⟩ :: rest) f m := by
  subst hI; exact ro_indexSl hx hy hT hs (by omega) (by omega) hd (by simpa using h)
theorem ro_ix1 {x y : Operand} {b o len cap : Nat} {k : IntKind} {I : Int} {i e : Nat} (hx : ev f x = .slice (some ⟨b, o, none⟩) len cap) (hy : ev f y = .int k I) (hI : I = (i : Int)) (hT : TyC.tk P T = .sl e) (hs : TyC.sz P e = 1)
    (h2 : i < len) (hd : dstOk n d = true)
    (h : RO P G qs c n h0 ops Q rest (updo f d (.pointer (some ⟨b, o + i, none⟩))) m) : RO P G qs c n h0 ops Q (⟨d, .indexAddr T x y, tt, pos, aft, none⟩ :: rest) f m := by
  subst hI; exact ro_indexSl1 hx hy hT hs (by omega) (by omega) hd (by simpa using h)
theorem ro_ixA1 {x y : Operand} {b o len : Nat} {k : IntKind} {I : Int} {i e : Nat} (hx : ev f x = .pointer (some ⟨b, o, none⟩)) (hy : ev f y = .int k I) (hI : I = (i : Int)) (hT : TyC.tk P T = .arr len e) (hs : TyC.sz P e = 1)
    (h2 : i < len) (hd : dstOk n d = true)
    (h : RO P G qs c n h0 ops Q rest (updo f d (.pointer (some ⟨b, o + i, none⟩))) m) : RO P G qs c n h0 ops Q (⟨d, .indexAddr T x y, tt, pos, aft, none⟩ :: rest) f m := by
  subst hI; exact ro_indexArr1 hx hy hT hs (by omega) (by omega) hd (by simpa using h)
theorem ro_ixAM {x y : Operand} {b o len : Nat} {k : IntKind} {I : Int} {i e s : Nat} (hx : ev f x = .pointer (some ⟨b, o, none⟩)) (hy : ev f y = .int k I) (hI : I = (i : Int)) (hT : TyC.tk P T = .arr len e) (hs : TyC.sz P e = s + 1)
    (h2 : i < len) (hd : dstOk n d = true)
    (h : RO P G qs c n h0 ops Q rest (updo f d (.pointer (some ⟨b, o + i * (s + 1), none⟩))) m) : RO P G qs c n h0 ops Q (⟨d, .indexAddr T x y, tt, pos, aft, none⟩ :: rest) f m := by
  subst hI; exact ro_indexArr hx hy hT hs (by omega) (by omega) hd (by simpa using h)

/-- A block of whole numbers. -/
def arrB (k : IntKind) (n : Nat) (x : Nat → Nat) (T : TypeId) : Blk := ⟨n, fun i => .int k ((x i : Nat) : Int), T, (0, 0)⟩
def updN (x : Nat → Nat) (i v : Nat) : Nat → Nat := fun j => if j = i then v else x j
theorem updN_same (x : Nat → Nat) (i v : Nat) : updN x i v i = v := if_pos rfl
theorem updN_other (x : Nat → Nat) (i v j : Nat) (h : j ≠ i) : updN x i v j = x j := if_neg h
theorem arrB_st (k : IntKind) (n : Nat) (x : Nat → Nat) (T : TypeId) (i v : Nat) : (arrB k n x T).st i (.int k (v : Int)) = arrB k n (updN x i v) T := by
  unfold arrB Blk.st
  congr 1
  funext j
  by_cases h : j = i
  · subst h; rw [upd_same, updN_same]
  · rw [upd_other _ _ _ _ h, updN_other _ _ _ _ h]
theorem ro_loadArr {x : Operand} {b o : Nat} {k : IntKind} {N : Nat} {y : Nat → Nat} {T1 : TypeId} (hx : ev f x = .pointer (some ⟨b, o, none⟩)) (hT : oneTk (TyC.tk P T) = true) (hm : Has m b (arrB k N y T1)) (hn : o < N) (hd : dstOk n d = true)
    (h : RO P G qs c n h0 ops Q rest (updo f d (.int k ((y o : Nat) : Int))) m) : RO P G qs c n h0 ops Q (⟨d, .load T x, tt, pos, aft, none⟩ :: rest) f m :=
  ro_loadI hx hT hm hn rfl hd h
theorem ro_loadArrG {x : Operand} {b o : Nat} {k : IntKind} {N : Nat} {y : Nat → Nat} {T1 : TypeId} (hx : ev f x = .pointer (some ⟨b, o, none⟩)) (hT : oneTk (TyC.tk P T) = true) (hm : (b, arrB k N y T1) ∈ G) (hn : o < N) (hd : dstOk n d = true)
    (h : RO P G qs c n h0 ops Q rest (updo f d (.int k ((y o : Nat) : Int))) m) : RO P G qs c n h0 ops Q (⟨d, .load T x, tt, pos, aft, none⟩ :: rest) f m :=
  ro_loadA hx hT (List.mem_append.2 (.inr hm)) hn rfl hd h
theorem ro_storeArr {x y : Operand} {b o : Nat} {k : IntKind} {N v : Nat} {A : Int} {z : Nat → Nat} {T1 : TypeId} {m' : Mem} (hx : ev f x = .pointer (some ⟨b, o, none⟩)) (hy : ev f y = .int k A) (hA : A = (v : Int)) (hT : TyC.sz P T = 1)
    (hm : Put m b (arrB k N z T1) (arrB k N (updN z o v) T1) m') (hn : o < N) (hex : h0.ex = false)
    (h : RO P G qs c n h0 ops Q rest f m') : RO P G qs c n h0 ops Q (⟨none, .store T x y, tt, pos, aft, none⟩ :: rest) f m := by
  subst hA
  rw [← arrB_st] at hm
  exact ro_storeI hx hy hT rfl hm hn rfl hex h

end

/-! Joins -/
inductive Vals (f : Fr) : List Nat → List (Nat × Value) → Prop
  | nil : Vals f [] []
  | cons {i : Nat} {v : Value} {l : List Nat} {r : List (Nat × Value)} : f i = v → Vals f l r → Vals f (i :: l) ((i, v) :: r)

section
variable {P : Program} [ty : TyC P] {G : Mem} {c : World} {n : Nat} {h0 : Base} {f : Fr} {m : Mem}

omit ty in
theorem Vals.ok {l : List Nat} {r : List (Nat × Value)} (h : Vals f l r) : slotsOk f r := by
  induction h with
  | nil => trivial
  | cons h1 _ ih => exact ⟨h1, ih⟩
def appS (l r : List (Nat × Value)) : List (Nat × Value) := match l with
  | [] => r
  | p :: l => p :: appS l r

omit ty in
/-- Behind a piece of code: the live slots keep their values, some have new ones. -/
theorem J_join {cd rest : Code} {Q Q' : Exit → Fr → Mem → Prop} (live : List Nat) (chg : List (Nat × Value)) (mem : Mem) {vals : List (Nat × Value)}
    (h1 : J P G c n h0 cd (thenQ (fun f' m' => slotsOk f' (appS chg vals) ∧ MEqv m' mem) Q) f m)
    (h2 : ∀ f', J P G c n h0 rest Q' (setL f' (appS chg vals)) mem)
    (hv : Vals f live vals := by repeat (first | exact Vals.nil | (apply Vals.cons; conv => lhs; whnf))) : J P G c n h0 cd (thenQ (fun f m => J P G c n h0 rest Q' f m) Q) f m := by
  have _ := hv
  exact J_cut _ mem h1 h2
omit ty in
/-- .. and memory is as it was. -/
theorem J_joinK {cd rest : Code} {Q Q' : Exit → Fr → Mem → Prop} (live : List Nat) (chg : List (Nat × Value)) {vals : List (Nat × Value)}
    (h1 : J P G c n h0 cd (thenQ (fun f' m' => slotsOk f' (appS chg vals) ∧ MEqv m' m) Q) f m)
    (h2 : ∀ f', J P G c n h0 rest Q' (setL f' (appS chg vals)) m)
    (hv : Vals f live vals := by repeat (first | exact Vals.nil | (apply Vals.cons; conv => lhs; whnf))) : J P G c n h0 cd (thenQ (fun f m => J P G c n h0 rest Q' f m) Q) f m := by
  have _ := hv
  exact J_cut _ m h1 h2
/-- What a join asks: the slots, the blocks. -/
theorem joined {f : Fr} {m m' : Mem} {l : List (Nat × Value)} (hm : MEqv m m') (hs : slotsOk f l := by repeat (first | exact trivial | refine ⟨by exact rfl, ?_⟩)) : slotsOk f l ∧ MEqv m m' := ⟨hs, hm⟩
omit ty in
/-- .. with a state. -/
theorem J_joinE {σ : Type} {cd rest : Code} {Q Q' : Exit → Fr → Mem → Prop} (live : List Nat) (chg : σ → List (Nat × Value)) (mem : σ → Mem) (inv : σ → Prop) {vals : List (Nat × Value)}
    (h1 : J P G c n h0 cd (thenQ (fun f' m' => ∃ s, inv s ∧ slotsOk f' (appS (chg s) vals) ∧ MEqv m' (mem s)) Q) f m)
    (h2 : ∀ s f', inv s → J P G c n h0 rest Q' (setL f' (appS (chg s) vals)) (mem s))
    (hv : Vals f live vals := by repeat (first | exact Vals.nil | (apply Vals.cons; conv => lhs; whnf))) : J P G c n h0 cd (thenQ (fun f m => J P G c n h0 rest Q' f m) Q) f m := by
  have _ := hv
  exact J_cutE (fun s => appS (chg s) vals) mem inv h1 h2
omit ty in
/-- A loop: live slots that keep their values, and others, by a state. -/
theorem J_loopL {σ : Type} {body : Code} {Q : Exit → Fr → Mem → Prop} (live : List Nat) (chg : σ → List (Nat × Value)) (mem : σ → Mem) (inv : σ → Prop) (meas : σ → Nat) (s0 : σ) {vals : List (Nat × Value)}
    (hm : MEqv m (mem s0)) (hi : inv s0)
    (round : ∀ s f, inv s → J P G c n h0 body (thenQ (fun f' m' => ∃ s', meas s' < meas s ∧ inv s' ∧ slotsOk f' (appS (chg s') vals) ∧ MEqv m' (mem s')) Q) (setL f (appS (chg s) vals)) (mem s))
    (hv : Vals f live vals := by repeat (first | exact Vals.nil | (apply Vals.cons; conv => lhs; whnf))) (hf : slotsOk f (appS (chg s0) vals) := by repeat (first | exact trivial | refine ⟨by exact rfl, ?_⟩)) : J P G c n h0 (.loop body) Q f m := by
  have _ := hv
  exact J_loopS (fun s => appS (chg s) vals) mem inv meas s0 hf hm hi round

end
end Go.Eng
