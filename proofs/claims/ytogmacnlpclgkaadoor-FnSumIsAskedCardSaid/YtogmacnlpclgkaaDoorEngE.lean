/-
  AN ENGINE OF WALKS, PART 14: results that lie in blocks; comparisons that are settled.
-/
import Derived.Test.YtogmacnlpclgkaaDoorEngD
namespace Go.Eng
open Go

/-- The values of results: slots, or structs in blocks. -/
def resOk (P : Program) [TyC P] (f : Fr) (m : Mem) : List ResultVar → List Value → Prop
  | [], [] => True
  | .tmp t :: rs, v :: vs => f t = v ∧ resOk P f m rs vs
  | .cell a T :: rs, v :: vs => (∃ b o s B, f a = .pointer (some ⟨b, o, none⟩) ∧ aggTk (TyC.tk P T) = true ∧ TyC.sz P T = s + 1 ∧ (b, B) ∈ m ∧ o + (s + 1) ≤ B.n ∧ v = .agg (tabL (s + 1) fun i => B.g (o + i)).toArray) ∧ resOk P f m rs vs
  | _, _ => False

section
variable {P : Program} [ty : TyC P] {G : Mem} {c : World} {h0 : Base} {R : Value → Mem → Prop} {f : Fr} {m : Mem}

theorem results_run {fn : Func} {rs : List ResultVar} {vs : List Value} (hres : fn.results = rs.toArray) {n : Nat} {a : Act} (r : Rep n a f) {w : World} {h : Heap} (hc : At c h w) (ho : Own h0 G m h) (hok : resOk P f m rs vs) :
    (results fn a.tmps).run P w = .ok (retV vs) w := by
  have key : ∀ (rs : List ResultVar) (vs : List Value), resOk P f m rs vs → (rs.mapM (fun | .tmp t => pure (a.tmps.getD t undef) | .cell ad t => do loadVar t (← asAddr (a.tmps.getD ad undef))) : Sem (List Value)).run P w = .ok vs w := by
    intro rs
    induction rs with
    | nil => intro vs hv; cases vs with
      | nil => simp
      | cons _ _ => exact hv.elim
    | cons x rs ih =>
      intro vs hv
      cases vs with
      | nil => cases x <;> exact hv.elim
      | cons v vs =>
        cases x with
        | tmp t =>
          obtain ⟨h1, h2⟩ := hv
          simp only [List.mapM_cons, Sem.run_bind, Sem.run_pure, Result.andThen_ok]
          rw [ih vs h2, r.slot t, h1]
          rfl
        | cell ad T =>
          obtain ⟨⟨b, o, s, B, h1, h2, h3, h4, h5, h6⟩, hr⟩ := hv
          have hb : w.heap[b]? = some B.obj := by rw [hc.1]; exact ho.has _ (List.mem_append.2 (.inl h4))
          have hl : ((do loadVar T (← asAddr (a.tmps.getD ad undef))) : Sem Value).run P w = .ok v w := by
            rw [r.slot ad, h1, h6]
            simp [asAddr, loadVar, run_isAgg_agg h2, run_sizeOf h3 (by omega), run_loadCells_blk hb h5]
          simp only [List.mapM_cons]
          rw [Sem.run_bind, hl]
          simp only [Result.andThen_ok]
          rw [Sem.run_bind, ih vs hr]
          rfl
  unfold results
  rw [hres]
  simp only [Sem.run_bind, List.mapM_toArray, Sem.run_map]
  erw [key rs vs hok]
  simp only [Result.andThen_ok, Sem.run_pure]
  congr 1
  cases vs with
  | nil => simp [retV]
  | cons v vs => cases vs <;> simp [retV]

theorem ends_retC {fn : Func} (rs : List ResultVar) (vs : List Value) {post junk : Mem} (hok : resOk P f m rs vs) (hR : R (retV vs) post) (hres : fn.results = rs.toArray := by exact rfl) (hs : MEqv m (post ++ junk) := by first | exact MEqv.refl _ | (apply SelE.eqv; repeat (first | exact .nil | exact .all | exact .allN | exact .pref | exact .suf | (apply SelE.cons; (first | exact .here (by first | with_reducible rfl | exact blk_tab rfl rfl rfl rfl | exact rfl) | exact .there (.here (by first | with_reducible rfl | exact blk_tab rfl rfl rfl rfl | exact rfl)) | exact .there (.there (.here (by first | with_reducible rfl | exact blk_tab rfl rfl rfl rfl | exact rfl))) | exact .there (.there (.there (.here (by first | with_reducible rfl | exact blk_tab rfl rfl rfl rfl | exact rfl)))) | exact .there (.there (.there (.there (.here (by first | with_reducible rfl | exact blk_tab rfl rfl rfl rfl | exact rfl))))) | exact .there (.there (.there (.there (.there (.here (by first | with_reducible rfl | exact blk_tab rfl rfl rfl rfl | exact rfl)))))) | exact .there (.there (.there (.there (.there (.there (.here (by first | with_reducible rfl | exact blk_tab rfl rfl rfl rfl | exact rfl))))))) | exact .there (.there (.there (.there (.there (.there (.there (.here (by first | with_reducible rfl | exact blk_tab rfl rfl rfl rfl | exact rfl)))))))) | exact .there (.there (.there (.there (.there (.there (.there (.there (.here (by first | with_reducible rfl | exact blk_tab rfl rfl rfl rfl | exact rfl))))))))))) | apply SelE.skip))) :
    Ends P G c fn h0 R .ret f m := ⟨_, post, junk, fun _ _ _ r hc ho => results_run hres r hc ho hok, hs, hR⟩
theorem ends_normalC {fn : Func} (rs : List ResultVar) (vs : List Value) {post junk : Mem} (hok : resOk P f m rs vs) (hR : R (retV vs) post) (hres : fn.results = rs.toArray := by exact rfl) (hs : MEqv m (post ++ junk) := by first | exact MEqv.refl _ | (apply SelE.eqv; repeat (first | exact .nil | exact .all | exact .allN | exact .pref | exact .suf | (apply SelE.cons; (first | exact .here (by first | with_reducible rfl | exact blk_tab rfl rfl rfl rfl | exact rfl) | exact .there (.here (by first | with_reducible rfl | exact blk_tab rfl rfl rfl rfl | exact rfl)) | exact .there (.there (.here (by first | with_reducible rfl | exact blk_tab rfl rfl rfl rfl | exact rfl))) | exact .there (.there (.there (.here (by first | with_reducible rfl | exact blk_tab rfl rfl rfl rfl | exact rfl)))) | exact .there (.there (.there (.there (.here (by first | with_reducible rfl | exact blk_tab rfl rfl rfl rfl | exact rfl))))) | exact .there (.there (.there (.there (.there (.here (by first | with_reducible rfl | exact blk_tab rfl rfl rfl rfl | exact rfl)))))) | exact .there (.there (.there (.there (.there (.there (.here (by first | with_reducible rfl | exact blk_tab rfl rfl rfl rfl | exact rfl))))))) | exact .there (.there (.there (.there (.there (.there (.there (.here (by first | with_reducible rfl | exact blk_tab rfl rfl rfl rfl | exact rfl)))))))) | exact .there (.there (.there (.there (.there (.there (.there (.there (.here (by first | with_reducible rfl | exact blk_tab rfl rfl rfl rfl | exact rfl))))))))))) | apply SelE.skip))) :
    Ends P G c fn h0 R .normal f m := ⟨_, post, junk, fun _ _ _ r hc ho => results_run hres r hc ho hok, hs, hR⟩

variable {qs : List FuncId} {n : Nat} {ops : Array Oper} {Q : Fr → Mem → Prop} {rest : List Oper} {d : Option Tmp} {T T' tt : TypeId} {pos : String} {aft : Array Edge}

omit ty in
theorem ro_notT {x : Operand} (hx : ev f x = .bool true) (hd : dstOk n d = true) (h : RO P G qs c n h0 ops Q rest (updo f d (.bool false)) m) :
    RO P G qs c n h0 ops Q (⟨d, .unOp .not T x, tt, pos, aft, none⟩ :: rest) f m := ro_not hx hd h
omit ty in
theorem ro_notF {x : Operand} (hx : ev f x = .bool false) (hd : dstOk n d = true) (h : RO P G qs c n h0 ops Q rest (updo f d (.bool true)) m) :
    RO P G qs c n h0 ops Q (⟨d, .unOp .not T x, tt, pos, aft, none⟩ :: rest) f m := ro_not hx hd h
theorem ro_neNil0 {x : Operand} {v : Value} (hx : ev f x = v) (hT : TyC.tk P T = .ifc) (hv : nilB v = some true) (hd : dstOk n d = true)
    (h : RO P G qs c n h0 ops Q rest (updo f d (.bool false)) m) : RO P G qs c n h0 ops Q (⟨d, .binOp .neq T x (.const .nilIface) T', tt, pos, aft, none⟩ :: rest) f m := ro_neNil hx hT hv hd h
theorem ro_neNil1 {x : Operand} {v : Value} (hx : ev f x = v) (hT : TyC.tk P T = .ifc) (hv : nilB v = some false) (hd : dstOk n d = true)
    (h : RO P G qs c n h0 ops Q rest (updo f d (.bool true)) m) : RO P G qs c n h0 ops Q (⟨d, .binOp .neq T x (.const .nilIface) T', tt, pos, aft, none⟩ :: rest) f m := ro_neNil hx hT hv hd h

omit ty in
theorem ro_eqIntT {x y : Operand} {k : IntKind} {a b : Int} (hx : ev f x = .int k a) (hy : ev f y = .int k b) (hab : a = b) (hd : dstOk n d = true)
    (h : RO P G qs c n h0 ops Q rest (updo f d (.bool true)) m) : RO P G qs c n h0 ops Q (⟨d, .binOp .eql T x y T', tt, pos, aft, none⟩ :: rest) f m :=
  ro_eqInt hx hy hd (by rw [show decide (a = b) = true from decide_eq_true hab]; exact h)
omit ty in
theorem ro_eqIntF {x y : Operand} {k : IntKind} {a b : Int} (hx : ev f x = .int k a) (hy : ev f y = .int k b) (hab : a ≠ b) (hd : dstOk n d = true)
    (h : RO P G qs c n h0 ops Q rest (updo f d (.bool false)) m) : RO P G qs c n h0 ops Q (⟨d, .binOp .eql T x y T', tt, pos, aft, none⟩ :: rest) f m :=
  ro_eqInt hx hy hd (by rw [show decide (a = b) = false from decide_eq_false hab]; exact h)
theorem ro_eqBoolT {x y : Operand} {a b : Bool} (hx : ev f x = .bool a) (hy : ev f y = .bool b) (hT : TyC.tk P T = .bool) (hab : a = b) (hd : dstOk n d = true)
    (h : RO P G qs c n h0 ops Q rest (updo f d (.bool true)) m) : RO P G qs c n h0 ops Q (⟨d, .binOp .eql T x y T', tt, pos, aft, none⟩ :: rest) f m :=
  ro_eqBool hx hy (u_bool hT) hd (by subst hab; simpa using h)
/-- A part of a slice of one-cell elements, that begins within it. -/
theorem ro_sl (l h : Nat) {x : Operand} {lo hi : Option Operand} {b o len cap e : Nat} (hx : ev f x = .slice (some ⟨b, o, none⟩) len cap) (hT : TyC.tk P T = .sl e) (hs : TyC.sz P e = 1)
    (hl : optInt f lo 0 = some (l : Int)) (hh : optInt f hi len = some (h : Int)) (h1 : l ≤ h) (h2 : h ≤ cap) (h3 : l < cap) (hd : dstOk n d = true)
    (hk : RO P G qs c n h0 ops Q rest (updo f d (.slice (some ⟨b, o + l, none⟩) (h - l) (cap - l))) m) :
    RO P G qs c n h0 ops Q (⟨d, .slice T x lo hi none, tt, pos, aft, none⟩ :: rest) f m := by
  refine ro_slice (s := 0) hx hT hs hl hh (by omega) (by omega) (by omega) hd ?_
  have : sOff o (l : Int).toNat (0 + 1) cap = o + l := by unfold sOff; rw [if_neg (by simp; omega)]; simp
  rw [this]
  simpa using hk
/-- .. from its begin on. -/
theorem ro_slTo (h : Nat) {x : Operand} {hi : Option Operand} {b o len cap e s : Nat} (hx : ev f x = .slice (some ⟨b, o, none⟩) len cap) (hT : TyC.tk P T = .sl e) (hs : TyC.sz P e = s + 1)
    (hh : optInt f hi len = some (h : Int)) (h2 : h ≤ cap) (hd : dstOk n d = true)
    (hk : RO P G qs c n h0 ops Q rest (updo f d (.slice (some ⟨b, o, none⟩) h cap)) m) :
    RO P G qs c n h0 ops Q (⟨d, .slice T x none hi none, tt, pos, aft, none⟩ :: rest) f m := by
  refine ro_slice (s := s) (l := 0) (lo := none) hx hT hs rfl hh (by omega) (by omega) (by omega) hd ?_
  have : sOff o (0 : Int).toNat (s + 1) cap = o := by unfold sOff; split <;> simp
  rw [this]
  simpa using hk
/-- A part of an array of one-cell elements, that begins within it. -/
theorem ro_arr (l h : Nat) {x : Operand} {lo hi : Option Operand} {b o k e : Nat} (hx : ev f x = .pointer (some ⟨b, o, none⟩)) (hT : TyC.tk P T = .arr k e) (hs : TyC.sz P e = 1)
    (hl : optInt f lo 0 = some (l : Int)) (hh : optInt f hi k = some (h : Int)) (h1 : l ≤ h) (h2 : h ≤ k) (h3 : l < k) (hd : dstOk n d = true)
    (hk : RO P G qs c n h0 ops Q rest (updo f d (.slice (some ⟨b, o + l, none⟩) (h - l) (k - l))) m) :
    RO P G qs c n h0 ops Q (⟨d, .slice T x lo hi none, tt, pos, aft, none⟩ :: rest) f m := by
  refine ro_sliceArr (s := 0) hx hT hs hl hh (by omega) (by omega) (by omega) hd ?_
  have : sOff o (l : Int).toNat (0 + 1) k = o + l := by unfold sOff; rw [if_neg (by simp; omega)]; simp
  rw [this]
  simpa using hk
theorem ro_arrTo (h : Nat) {x : Operand} {hi : Option Operand} {b o k e s : Nat} (hx : ev f x = .pointer (some ⟨b, o, none⟩)) (hT : TyC.tk P T = .arr k e) (hs : TyC.sz P e = s + 1)
    (hh : optInt f hi k = some (h : Int)) (h2 : h ≤ k) (hd : dstOk n d = true)
    (hk : RO P G qs c n h0 ops Q rest (updo f d (.slice (some ⟨b, o, none⟩) h k)) m) :
    RO P G qs c n h0 ops Q (⟨d, .slice T x none hi none, tt, pos, aft, none⟩ :: rest) f m := by
  refine ro_sliceArr (s := s) (l := 0) (lo := none) hx hT hs rfl hh (by omega) (by omega) (by omega) hd ?_
  have : sOff o (0 : Int).toNat (s + 1) k = o := by unfold sOff; split <;> simp
  rw [this]
  simpa using hk

omit ty in
theorem ro_wantG {op : Op} {g : Nat × Bool} (hw : wantedF ops f ⟨d, op, tt, pos, aft, some g⟩ = true) (h : RO P G qs c n h0 ops Q (⟨d, op, tt, pos, aft, none⟩ :: rest) f m) : RO P G qs c n h0 ops Q (⟨d, op, tt, pos, aft, some g⟩ :: rest) f m :=
  ro_want hw h
omit ty in
theorem ro_unwantG {op : Op} {g : Nat × Bool} (hw : wantedF ops f ⟨d, op, tt, pos, aft, some g⟩ = false) (hd : dstOk n d = true) (h : RO P G qs c n h0 ops Q rest (updo f d undef) m) : RO P G qs c n h0 ops Q (⟨d, op, tt, pos, aft, some g⟩ :: rest) f m :=
  ro_unwant hd hw h

end
end Go.Eng
