/-
  TEXTS MERGED: Eng3, Eng4.
-/
import Derived.Test.YtogmacnlpclgkaaDoorK02
import Derived.WalkKit
/-! AN ENGINE OF WALKS, PART 3: A RULE FOR EACH OPERATION. -/
namespace Go.Eng
open Go

inductive TK
  | int (k : IntKind) | bool | string | ptr (e : TypeId) | sl (e : TypeId) | arr (len : Nat) (e : TypeId) | st (fs : List (Nat × TypeId)) | ifc | fn | bad

def tkCheck (P : Program) (k : TK) (T : TypeId) : Bool := match k, P.underlying T with
  | .int k, some (.int k') => decide (k = k')
  | .bool, some .bool => true
  | .string, some .string => true
  | .ptr e, some (.pointer e') => Nat.beq e e'
  | .sl e, some (.slice e') => Nat.beq e e'
  | .arr n e, some (.array n' e') => Nat.beq n n' && Nat.beq e e'
  | .st fs, some (.struct fields) => fields.toList.map (fun f => (f.offset, f.type)) == fs
  | .ifc, some (.interface _) => true
  | .fn, some (.func _ _ _) => true
  | .bad, _ => true
  | _, _ => false

def szCheck (P : Program) (s b : Nat) (T : TypeId) : Bool := Nat.beq s 0 || match P.info? T with
  | some i => Nat.beq i.size s && Nat.beq i.bytes b && (match i.zero with | some z => Nat.beq z.cells.size s | none => false)
  | none => false

def goCheck (P : Program) (f : FuncId) : Bool := match P.funcs[f]? with
  | some fn => fn.body.isSome && !(fn.name == "runtime.NumGoroutine")
  | none => false

/-- What the walks ask of the program's tables, by short tables of their own. -/
class TyC (P : Program) where
  tk : TypeId → TK
  sz : TypeId → Nat
  by_ : TypeId → Nat
  go : FuncId → Bool
  tkOk : ∀ T, tkCheck P (tk T) T = true
  szOk : ∀ T, szCheck P (sz T) (by_ T) T = true
  goOk : ∀ f, go f = true → goCheck P f = true
  mixed : P.follows .mixedOrders = true

section
variable {P : Program} [ty : TyC P]

theorem u_int {T : TypeId} {k : IntKind} (h : TyC.tk P T = .int k) : P.underlying T = some (.int k) := by
  have := ty.tkOk T; rw [h] at this; unfold tkCheck at this; split at this <;> simp_all
theorem u_bool {T : TypeId} (h : TyC.tk P T = .bool) : P.underlying T = some .bool := by
  have := ty.tkOk T; rw [h] at this; unfold tkCheck at this; split at this <;> simp_all
theorem u_string {T : TypeId} (h : TyC.tk P T = .string) : P.underlying T = some .string := by
  have := ty.tkOk T; rw [h] at this; unfold tkCheck at this; split at this <;> simp_all
theorem u_ptr {T e : TypeId} (h : TyC.tk P T = .ptr e) : P.underlying T = some (.pointer e) := by
  have := ty.tkOk T; rw [h] at this; unfold tkCheck at this; split at this <;> simp_all
theorem u_sl {T e : TypeId} (h : TyC.tk P T = .sl e) : P.underlying T = some (.slice e) := by
  have := ty.tkOk T; rw [h] at this; unfold tkCheck at this; split at this <;> simp_all
theorem u_arr {T e : TypeId} {k : Nat} (h : TyC.tk P T = .arr k e) : P.underlying T = some (.array k e) := by
  have := ty.tkOk T; rw [h] at this; unfold tkCheck at this; split at this <;> simp_all
theorem u_st {T : TypeId} {fs : List (Nat × TypeId)} (h : TyC.tk P T = .st fs) : ∃ fields, P.underlying T = some (.struct fields) ∧ fields.toList.map (fun f => (f.offset, f.type)) = fs := by
  have := ty.tkOk T; rw [h] at this; unfold tkCheck at this; split at this <;> simp_all
theorem u_fn {T : TypeId} (h : TyC.tk P T = .fn) : ∃ a b c, P.underlying T = some (.func a b c) := by
  have := ty.tkOk T; rw [h] at this; unfold tkCheck at this; split at this <;> simp_all
theorem u_ifc {T : TypeId} (h : TyC.tk P T = .ifc) : ∃ ms, P.underlying T = some (.interface ms) := by
  have := ty.tkOk T; rw [h] at this; unfold tkCheck at this; split at this <;> simp_all

/-- A type of one cell, no struct and no array. -/
def oneTk : TK → Bool
  | .int _ | .bool | .string | .ptr _ | .sl _ | .ifc | .fn => true
  | _ => false
theorem run_isAgg_one {T : TypeId} (h : oneTk (TyC.tk P T) = true) (w : World) : (isAgg T).run P w = .ok false w := by
  unfold isAgg
  cases hk : TyC.tk P T <;> rw [hk] at h <;> first | cases h | skip
  case int k => simp [run_underlying (u_int hk)]
  case bool => simp [run_underlying (u_bool hk)]
  case string => simp [run_underlying (u_string hk)]
  case ptr e => simp [run_underlying (u_ptr hk)]
  case sl e => simp [run_underlying (u_sl hk)]
  case ifc => obtain ⟨ms, hm⟩ := u_ifc hk; simp [run_underlying hm]
  case fn => obtain ⟨_, _, _, hm⟩ := u_fn hk; simp [run_underlying hm]

theorem info_of {T : TypeId} {s : Nat} (h : TyC.sz P T = s) (h0 : s ≠ 0) : ∃ i z, P.info? T = some i ∧ i.size = s ∧ i.bytes = TyC.by_ P T ∧ i.zero = some z ∧ z.cells.size = s := by
  have := ty.szOk T
  rw [h] at this
  unfold szCheck at this
  simp only [Bool.or_eq_true] at this
  rcases this with this | this
  · exact absurd (Nat.eq_of_beq_eq_true this) h0
  · split at this
    · rename_i i hi
      simp only [Bool.and_eq_true] at this
      obtain ⟨⟨h1, h2⟩, h3⟩ := this
      split at h3
      · rename_i z hz
        exact ⟨i, z, hi, Nat.eq_of_beq_eq_true h1, Nat.eq_of_beq_eq_true h2, hz, Nat.eq_of_beq_eq_true h3⟩
      · cases h3
    · cases this

theorem run_sizeOf {T : TypeId} {s : Nat} (h : TyC.sz P T = s) (h0 : s ≠ 0) (w : World) : (sizeOf T).run P w = .ok s w := by
  obtain ⟨i, z, hi, hs, _⟩ := info_of h h0
  simp [sizeOf, typeInfo, hi, hs]

theorem run_callFunc {f : FuncId} (h : TyC.go P f = true) (args : Array Value) (w : World) : (callFunc f args).run P w = .ok (.enter f args) w := by
  have := ty.goOk f h
  unfold goCheck at this
  split at this
  · rename_i fn hf
    simp only [Bool.and_eq_true, Bool.not_eq_true', beq_eq_false_iff_ne, ne_eq, Option.isSome_iff_ne_none] at this
    obtain ⟨hb, hn⟩ := this
    simp [callFunc, hf, hn, hb]
  · cases this

end

section
variable {P : Program}
variable {G : Mem} {qs : List FuncId} {c : World} {n : Nat} {h0 : Base} {ops : Array Oper} {Q : Fr → Mem → Prop} {rest : List Oper} {f : Fr} {m : Mem}
variable {d : Option Tmp} {T T' tt : TypeId} {pos : String} {aft : Array Edge}

theorem ro_nil (h : Q f m) : RO P G qs c n h0 ops Q [] f m := h

theorem wantedF_none {o : Oper} (h : o.guard = none) : wantedF ops f o = true := by simp [wantedF, Region.wanted, h]

theorem ro_pure {o : Oper} {v : Value} (hcl : cls qs o.op = 0) (hg : o.guard = none) (hd : dstOk n o.dst = true) (hr : ∀ w, (execOp (ev f) o).run P w = .ok (.value v) w)
    (h : RO P G qs c n h0 ops Q rest (updo f o.dst v) m) : RO P G qs c n h0 ops Q (o :: rest) f m :=
  ⟨hd, .inl ⟨wantedF_none hg, by rw [if_pos hcl]; exact ⟨v, hr, h⟩⟩⟩

theorem ro_read {o : Oper} {v : Value} (hcl : cls qs o.op ≤ 1) (hg : o.guard = none) (hd : dstOk n o.dst = true)
    (hr : cls qs o.op = 1 → ∀ h w, Own h0 G m h → At c h w → StillF P c h w (execOp (ev f) o) v) (hp : cls qs o.op = 0 → ∀ w, (execOp (ev f) o).run P w = .ok (.value v) w)
    (h : RO P G qs c n h0 ops Q rest (updo f o.dst v) m) : RO P G qs c n h0 ops Q (o :: rest) f m := by
  refine ⟨hd, .inl ⟨wantedF_none hg, ?_⟩⟩
  by_cases h1 : cls qs o.op = 0
  · rw [if_pos h1]; exact ⟨v, hp h1, h⟩
  · rw [if_neg h1, if_pos (by omega)]; exact ⟨v, hr (by omega), h⟩

theorem ro_pureC {o : Oper} {v : Value} (hcl : cls qs o.op ≤ 1) (hg : o.guard = none) (hd : dstOk n o.dst = true) (hr : ∀ w, (execOp (ev f) o).run P w = .ok (.value v) w)
    (h : RO P G qs c n h0 ops Q rest (updo f o.dst v) m) : RO P G qs c n h0 ops Q (o :: rest) f m :=
  ro_read hcl hg hd (fun _ _ w _ hc => ⟨w, hc, .inl (hr w)⟩) (fun _ => hr) h
theorem cls_conv {s d : TypeId} {x : Operand} : cls qs (.convert s d x) ≤ 1 := by
  show (if qs.contains (1000000 + 1000 * s + d) = true then 1 else 0) ≤ 1
  split <;> omega

theorem ro_eff {o : Oper} (hcl : cls qs o.op = 2) (hg : o.guard = none) (hd : dstOk n o.dst = true)
    (h : ∀ h w, Own h0 G m h → At c h w → ∀ a, Rep n a f → o.wp P a w (fun a' w' => ∃ f' m' h', Rep n a' f' ∧ At c h' w' ∧ Own h0 G m' h' ∧ RO P G qs c n h0 ops Q rest f' m') noWay) :
    RO P G qs c n h0 ops Q (o :: rest) f m :=
  ⟨hd, .inl ⟨wantedF_none hg, by
    rw [if_neg (by omega), if_neg (by omega)]
    intro h' w ho hc a r
    exact Oper.wp_mono (fun _ _ ⟨f', m', h'', r', hc', o', hK⟩ => ⟨f', m', h'', r', hc', o', fun h3 => by omega, hK⟩) (h h' w ho hc a r)⟩⟩
theorem ro_effA {o : Oper} (hcl : cls qs o.op = 3) (hg : o.guard = none) (hd : dstOk n o.dst = true)
    (h : ∀ h w, Own h0 G m h → At c h w → ∀ a, Rep n a f → o.wp P a w (fun a' w' => ∃ f' m' h', Rep n a' f' ∧ At c h' w' ∧ Own h0 G m' h' ∧ Ext h0 G h h' ∧ RO P G qs c n h0 ops Q rest f' m') noWay) :
    RO P G qs c n h0 ops Q (o :: rest) f m :=
  ⟨hd, .inl ⟨wantedF_none hg, by
    rw [if_neg (by omega), if_neg (by omega)]
    intro h' w ho hc a r
    exact Oper.wp_mono (fun _ _ ⟨f', m', h'', r', hc', o', hx, hK⟩ => ⟨f', m', h'', r', hc', o', fun _ => hx, hK⟩) (h h' w ho hc a r)⟩⟩

/-! Guards -/
theorem ro_want {o : Oper} (hw : wantedF ops f o = true) (h : RO P G qs c n h0 ops Q ({ o with guard := none } :: rest) f m) : RO P G qs c n h0 ops Q (o :: rest) f m := by
  obtain ⟨hd, h⟩ := h
  refine ⟨hd, .inl ⟨hw, ?_⟩⟩
  rcases h with ⟨_, h⟩ | ⟨hf, _⟩
  · exact h
  · rw [wantedF_none rfl] at hf; cases hf
theorem ro_unwant {o : Oper} (hd : dstOk n o.dst = true) (hw : wantedF ops f o = false) (h : RO P G qs c n h0 ops Q rest (updo f o.dst undef) m) : RO P G qs c n h0 ops Q (o :: rest) f m :=
  ⟨hd, .inr ⟨hw, h⟩⟩
/-- The Bool of a slot, parted. -/
theorem ro_split {l : List Oper} (t : Nat) {b : Bool} (hb : f t = .bool b) (h1 : b = true → RO P G qs c n h0 ops Q l (upd f t (.bool true)) m) (h2 : b = false → RO P G qs c n h0 ops Q l (upd f t (.bool false)) m) :
    RO P G qs c n h0 ops Q l f m := by
  cases b
  · have := h2 rfl; rw [← hb, upd_self] at this; exact this
  · have := h1 rfl; rw [← hb, upd_self] at this; exact this
theorem ro_splitP {l : List Oper} (t : Nat) {p : Prop} [Decidable p] (hb : f t = .bool (decide p)) (h1 : p → RO P G qs c n h0 ops Q l (upd f t (.bool true)) m) (h2 : ¬p → RO P G qs c n h0 ops Q l (upd f t (.bool false)) m) :
    RO P G qs c n h0 ops Q l f m :=
  ro_split t hb (fun h => h1 (of_decide_eq_true h)) (fun h => h2 (of_decide_eq_false h))

/-! Operations that only reckon -/
theorem ro_move {x : Operand} {v : Value} (hx : ev f x = v) (hd : dstOk n d = true) (h : RO P G qs c n h0 ops Q rest (updo f d v) m) : RO P G qs c n h0 ops Q (⟨d, .move x, tt, pos, aft, none⟩ :: rest) f m :=
  ro_pure rfl rfl hd (fun w => by simp [execOp, hx]) h
theorem ro_assign {x : Operand} {v : Value} (hx : ev f x = v) (hd : dstOk n d = true) (h : RO P G qs c n h0 ops Q rest (updo f d v) m) : RO P G qs c n h0 ops Q (⟨d, .assign x, tt, pos, aft, none⟩ :: rest) f m :=
  ro_pure rfl rfl hd (fun w => by simp [execOp, hx]) h
theorem ro_nilCheck {x : Operand} {a : Addr} (hx : ev f x = .pointer (some a)) (hd : dstOk n d = true) (h : RO P G qs c n h0 ops Q rest (updo f d (.pointer (some a))) m) :
    RO P G qs c n h0 ops Q (⟨d, .nilCheck x, tt, pos, aft, none⟩ :: rest) f m :=
  ro_pure rfl rfl hd (fun w => by simp [execOp, hx]) h
theorem ro_pick {x y z : Operand} {b : Bool} {v : Value} (hx : ev f x = .bool b) (hv : (bif b then ev f y else ev f z) = v) (hd : dstOk n d = true) (h : RO P G qs c n h0 ops Q rest (updo f d v) m) :
    RO P G qs c n h0 ops Q (⟨d, .pick x y z, tt, pos, aft, none⟩ :: rest) f m :=
  ro_pure rfl rfl hd (fun w => by subst hv; cases b <;> simp [execOp, hx, asBool]) h
theorem ro_extract {x : Operand} {i : Nat} {vs : List Value} {v : Value} (hx : ev f x = .tuple vs.toArray) (hv : vs[i]? = some v) (hd : dstOk n d = true) (h : RO P G qs c n h0 ops Q rest (updo f d v) m) :
    RO P G qs c n h0 ops Q (⟨d, .extract x i, tt, pos, aft, none⟩ :: rest) f m :=
  ro_pure rfl rfl hd (fun w => by simp [execOp, hx, Instr.extract, hv]) h
theorem ro_not {x : Operand} {b : Bool} (hx : ev f x = .bool b) (hd : dstOk n d = true) (h : RO P G qs c n h0 ops Q rest (updo f d (.bool !b)) m) :
    RO P G qs c n h0 ops Q (⟨d, .unOp .not T x, tt, pos, aft, none⟩ :: rest) f m :=
  ro_pure rfl rfl hd (fun w => by simp [execOp, hx, Op.unary]) h
theorem ro_notP {x : Operand} {p : Prop} [Decidable p] (hx : ev f x = .bool (decide p)) (hd : dstOk n d = true) (h : RO P G qs c n h0 ops Q rest (updo f d (.bool (decide ¬p))) m) :
    RO P G qs c n h0 ops Q (⟨d, .unOp .not T x, tt, pos, aft, none⟩ :: rest) f m :=
  ro_not hx hd (by rw [show (!decide p) = decide (¬p) from by simp]; exact h)
theorem ro_neg {x : Operand} {k : IntKind} {a : Int} (hx : ev f x = .int k a) (hd : dstOk n d = true) (h : RO P G qs c n h0 ops Q rest (updo f d (.int k (k.wrap (0 - a)))) m) :
    RO P G qs c n h0 ops Q (⟨d, .unOp .neg T x, tt, pos, aft, none⟩ :: rest) f m :=
  ro_pure rfl rfl hd (fun w => by simp [execOp, hx, Op.unary, Op.intArith]) h

/-- The arithmetic of whole numbers. -/
def binV (op : BinOp) (k : IntKind) (a b : Int) : Option Value :=
  match op with
  | .add => some (.int k (k.wrap (a + b)))
  | .sub => some (.int k (k.wrap (a - b)))
  | .mul => some (.int k (k.wrap (a * b)))
  | .and => some (.int k (k.wrap (BitVec.ofInt k.bits a &&& BitVec.ofInt k.bits b).toNat))
  | .or => some (.int k (k.wrap (BitVec.ofInt k.bits a ||| BitVec.ofInt k.bits b).toNat))
  | .xor => some (.int k (k.wrap (BitVec.ofInt k.bits a ^^^ BitVec.ofInt k.bits b).toNat))
  | .andNot => some (.int k (k.wrap (BitVec.ofInt k.bits a &&& ~~~BitVec.ofInt k.bits b).toNat))
  | .lss => some (.bool (decide (a < b)))
  | .leq => some (.bool (decide (a ≤ b)))
  | .gtr => some (.bool (decide (a > b)))
  | .geq => some (.bool (decide (a ≥ b)))
  | _ => none

theorem ro_bin {op : BinOp} {x y : Operand} {k : IntKind} {a b : Int} {v : Value} (hx : ev f x = .int k a) (hy : ev f y = .int k b) (hv : binV op k a b = some v) (hd : dstOk n d = true)
    (h : RO P G qs c n h0 ops Q rest (updo f d v) m) : RO P G qs c n h0 ops Q (⟨d, .binOp op T x y T', tt, pos, aft, none⟩ :: rest) f m := by
  refine ro_pure ?_ rfl hd (fun w => ?_) h
  · cases op <;> first | rfl | cases hv
  · cases op <;> first | (cases hv; done) | (cases hv; simp [execOp, hx, hy, eqGuard, binOp, Op.intArith, Op.intBits, Op.intCmp])
/-- Without an overflow. -/
theorem ro_add {x y : Operand} {k : IntKind} {a b : Int} (hx : ev f x = .int k a) (hy : ev f y = .int k b) (hv : k.wrap (a + b) = a + b) (hd : dstOk n d = true)
    (h : RO P G qs c n h0 ops Q rest (updo f d (.int k (a + b))) m) : RO P G qs c n h0 ops Q (⟨d, .binOp .add T x y T', tt, pos, aft, none⟩ :: rest) f m :=
  ro_bin hx hy rfl hd (by rw [hv]; exact h)
theorem ro_sub {x y : Operand} {k : IntKind} {a b : Int} (hx : ev f x = .int k a) (hy : ev f y = .int k b) (hv : k.wrap (a - b) = a - b) (hd : dstOk n d = true)
    (h : RO P G qs c n h0 ops Q rest (updo f d (.int k (a - b))) m) : RO P G qs c n h0 ops Q (⟨d, .binOp .sub T x y T', tt, pos, aft, none⟩ :: rest) f m :=
  ro_bin hx hy rfl hd (by rw [hv]; exact h)
theorem ro_mul {x y : Operand} {k : IntKind} {a b : Int} (hx : ev f x = .int k a) (hy : ev f y = .int k b) (hv : k.wrap (a * b) = a * b) (hd : dstOk n d = true)
    (h : RO P G qs c n h0 ops Q rest (updo f d (.int k (a * b))) m) : RO P G qs c n h0 ops Q (⟨d, .binOp .mul T x y T', tt, pos, aft, none⟩ :: rest) f m :=
  ro_bin hx hy rfl hd (by rw [hv]; exact h)

theorem ro_quo {x y : Operand} {k : IntKind} {a b : Int} (hx : ev f x = .int k a) (hy : ev f y = .int k b) (hb : b ≠ 0) (hd : dstOk n d = true)
    (h : RO P G qs c n h0 ops Q rest (updo f d (.int k (k.wrap (a.tdiv b)))) m) : RO P G qs c n h0 ops Q (⟨d, .binOp .quo T x y T', tt, pos, aft, none⟩ :: rest) f m :=
  ro_pure rfl rfl hd (fun w => by simp [execOp, hx, hy, eqGuard, binOp, Op.intDiv, hb]) h
theorem ro_rem {x y : Operand} {k : IntKind} {a b : Int} (hx : ev f x = .int k a) (hy : ev f y = .int k b) (hb : b ≠ 0) (hd : dstOk n d = true)
    (h : RO P G qs c n h0 ops Q rest (updo f d (.int k (a.tmod b))) m) : RO P G qs c n h0 ops Q (⟨d, .binOp .rem T x y T', tt, pos, aft, none⟩ :: rest) f m :=
  ro_pure rfl rfl hd (fun w => by simp [execOp, hx, hy, eqGuard, binOp, Op.intDiv, hb]) h
theorem ro_shl {x y : Operand} {k k' : IntKind} {a b : Int} (hx : ev f x = .int k a) (hy : ev f y = .int k' b) (hb : 0 ≤ b) (hd : dstOk n d = true)
    (h : RO P G qs c n h0 ops Q rest (updo f d (.int k (k.wrap (a * 2 ^ (min b.toNat k.bits))))) m) : RO P G qs c n h0 ops Q (⟨d, .binOp .shl T x y T', tt, pos, aft, none⟩ :: rest) f m :=
  ro_pure rfl rfl hd (fun w => by simp [execOp, hx, hy, eqGuard, binOp, Op.shift, show ¬ b < 0 by omega]) h
theorem ro_shr {x y : Operand} {k k' : IntKind} {a b : Int} (hx : ev f x = .int k a) (hy : ev f y = .int k' b) (hb : 0 ≤ b) (hd : dstOk n d = true)
    (h : RO P G qs c n h0 ops Q rest (updo f d (.int k (a.fdiv (2 ^ (min b.toNat k.bits))))) m) : RO P G qs c n h0 ops Q (⟨d, .binOp .shr T x y T', tt, pos, aft, none⟩ :: rest) f m :=
  ro_pure rfl rfl hd (fun w => by simp [execOp, hx, hy, eqGuard, binOp, Op.shift, show ¬ b < 0 by omega]) h

theorem ro_eqInt {x y : Operand} {k : IntKind} {a b : Int} (hx : ev f x = .int k a) (hy : ev f y = .int k b) (hd : dstOk n d = true)
    (h : RO P G qs c n h0 ops Q rest (updo f d (.bool (decide (a = b)))) m) : RO P G qs c n h0 ops Q (⟨d, .binOp .eql T x y T', tt, pos, aft, none⟩ :: rest) f m :=
  have hr : ∀ w, (execOp (ev f) ⟨d, .binOp .eql T x y T', tt, pos, aft, none⟩).run P w = .ok (.value (.bool (decide (a = b)))) w := fun w => by
    simp [execOp, hx, hy, eqGuard, binOp, Op.intCmp]; rfl
  ro_read (Nat.le_refl _) rfl hd (fun _ _ w _ hc => ⟨w, hc, .inl (hr w)⟩) (fun _ => hr) h
theorem ro_neInt {x y : Operand} {k : IntKind} {a b : Int} (hx : ev f x = .int k a) (hy : ev f y = .int k b) (hd : dstOk n d = true)
    (h : RO P G qs c n h0 ops Q rest (updo f d (.bool (decide (a ≠ b)))) m) : RO P G qs c n h0 ops Q (⟨d, .binOp .neq T x y T', tt, pos, aft, none⟩ :: rest) f m :=
  have hr : ∀ w, (execOp (ev f) ⟨d, .binOp .neq T x y T', tt, pos, aft, none⟩).run P w = .ok (.value (.bool (decide (a ≠ b)))) w := fun w => by
    simp [execOp, hx, hy, eqGuard, binOp, Op.intCmp, bne]; rfl
  ro_read (Nat.le_refl _) rfl hd (fun _ _ w _ hc => ⟨w, hc, .inl (hr w)⟩) (fun _ => hr) h

theorem ro_makeFunc {fn : Fn} {xs ys : Array Operand} {vs us : Array Value} (hx : xs.map (ev f) = vs) (hy : ys.map (ev f) = us) (hd : dstOk n d = true)
    (h : RO P G qs c n h0 ops Q rest (updo f d (.func fn vs us)) m) : RO P G qs c n h0 ops Q (⟨d, .makeFunc fn xs ys, tt, pos, aft, none⟩ :: rest) f m :=
  ro_pure rfl rfl hd (fun w => by simp [execOp, hx, hy, Instr.makeFunc]) h

theorem Addr_add (b o k : Nat) : Addr.add ⟨b, o, none⟩ k = ⟨b, o + k, none⟩ := by
  unfold Addr.add; split
  · rename_i h; subst h; rfl
  · rfl

end

section
variable {P : Program} [ty : TyC P]
variable {G : Mem} {qs : List FuncId} {c : World} {n : Nat} {h0 : Base} {ops : Array Oper} {Q : Fr → Mem → Prop} {rest : List Oper} {f : Fr} {m : Mem}
variable {d : Option Tmp} {T T' tt : TypeId} {pos : String} {aft : Array Edge}

theorem ro_convInt {x : Operand} {k k' : IntKind} {a : Int} (hx : ev f x = .int k a) (hs : TyC.tk P T = .int k) (ht : TyC.tk P T' = .int k') (hd : dstOk n d = true)
    (h : RO P G qs c n h0 ops Q rest (updo f d (.int k' (k'.wrap a))) m) : RO P G qs c n h0 ops Q (⟨d, .convert T T' x, tt, pos, aft, none⟩ :: rest) f m :=
  ro_pureC cls_conv rfl hd (fun w => by simp [execOp, hx, convert, run_underlying (u_int hs), run_underlying (u_int ht), Conv.intToInt]) h
theorem ro_conv {x : Operand} {k k' : IntKind} {a : Int} (hx : ev f x = .int k a) (hs : TyC.tk P T = .int k) (ht : TyC.tk P T' = .int k') (hv : k'.wrap a = a) (hd : dstOk n d = true)
    (h : RO P G qs c n h0 ops Q rest (updo f d (.int k' a)) m) : RO P G qs c n h0 ops Q (⟨d, .convert T T' x, tt, pos, aft, none⟩ :: rest) f m :=
  ro_convInt hx hs ht hd (by rw [hv]; exact h)

def concTk : TK → Bool
  | .ifc | .bad => false
  | _ => true
theorem ro_makeInterface {x : Operand} {v : Value} (hx : ev f x = v) (hT : concTk (TyC.tk P T) = true) (hd : dstOk n d = true)
    (h : RO P G qs c n h0 ops Q rest (updo f d (.iface T v)) m) : RO P G qs c n h0 ops Q (⟨d, .makeInterface T x, tt, pos, aft, none⟩ :: rest) f m := by
  refine ro_pure rfl rfl hd (fun w => ?_) h
  cases hk : TyC.tk P T <;> rw [hk] at hT <;> first | cases hT | skip
  case int k => simp [execOp, hx, Instr.makeInterface, run_underlying (u_int hk)]
  case bool => simp [execOp, hx, Instr.makeInterface, run_underlying (u_bool hk)]
  case string => simp [execOp, hx, Instr.makeInterface, run_underlying (u_string hk)]
  case ptr e => simp [execOp, hx, Instr.makeInterface, run_underlying (u_ptr hk)]
  case sl e => simp [execOp, hx, Instr.makeInterface, run_underlying (u_sl hk)]
  case arr k e => simp [execOp, hx, Instr.makeInterface, run_underlying (u_arr hk)]
  case st fs => obtain ⟨fl, hf, _⟩ := u_st hk; simp [execOp, hx, Instr.makeInterface, run_underlying hf]
  case fn => obtain ⟨_, _, _, hf⟩ := u_fn hk; simp [execOp, hx, Instr.makeInterface, run_underlying hf]

/-- A field's place. -/
def fieldOf (k : TK) (i : Nat) : Option (Nat × TypeId) := match k with | .st fs => fs[i]? | _ => none
theorem ro_fieldAddr {x : Operand} {b o i off : Nat} {T' : TypeId} {s : Nat} (hx : ev f x = .pointer (some ⟨b, o, none⟩)) (hT : fieldOf (TyC.tk P T) i = some (off, T')) (hs : TyC.sz P T' = s + 1) (hd : dstOk n d = true)
    (h : RO P G qs c n h0 ops Q rest (updo f d (.pointer (some ⟨b, o + off, none⟩))) m) : RO P G qs c n h0 ops Q (⟨d, .fieldAddr T x i, tt, pos, aft, none⟩ :: rest) f m := by
  refine ro_pure rfl rfl hd (fun w => ?_) h
  unfold fieldOf at hT
  split at hT
  · rename_i fs hk
    obtain ⟨fl, hf, hl⟩ := u_st hk
    subst hl
    simp only [List.getElem?_map, Option.map_eq_some_iff, Array.getElem?_toList] at hT
    obtain ⟨fd, hfd, he⟩ := hT
    simp only [Prod.mk.injEq] at he
    obtain ⟨rfl, rfl⟩ := he
    simp [execOp, hx, Instr.fieldAt, run_underlying hf, hfd, Instr.sureAddr, fieldPlace, run_sizeOf hs (by omega), Addr_add]
  · cases hT

theorem ro_indexSl {x y : Operand} {b o len cap : Nat} {k : IntKind} {i : Int} {e s : Nat} (hx : ev f x = .slice (some ⟨b, o, none⟩) len cap) (hy : ev f y = .int k i) (hT : TyC.tk P T = .sl e) (hs : TyC.sz P e = s + 1)
    (h1 : 0 ≤ i) (h2 : i < len) (hd : dstOk n d = true)
    (h : RO P G qs c n h0 ops Q rest (updo f d (.pointer (some ⟨b, o + i.toNat * (s + 1), none⟩))) m) : RO P G qs c n h0 ops Q (⟨d, .indexAddr T x y, tt, pos, aft, none⟩ :: rest) f m :=
  ro_pure rfl rfl hd (fun w => by simp [execOp, hx, hy, Instr.indexAt, asIntOf, run_underlying (u_sl hT), h1, h2, run_sizeOf hs (by omega), Addr_add]) h
theorem ro_indexSl1 {x y : Operand} {b o len cap : Nat} {k : IntKind} {i : Int} {e : Nat} (hx : ev f x = .slice (some ⟨b, o, none⟩) len cap) (hy : ev f y = .int k i) (hT : TyC.tk P T = .sl e) (hs : TyC.sz P e = 1)
    (h1 : 0 ≤ i) (h2 : i < len) (hd : dstOk n d = true)
    (h : RO P G qs c n h0 ops Q rest (updo f d (.pointer (some ⟨b, o + i.toNat, none⟩))) m) : RO P G qs c n h0 ops Q (⟨d, .indexAddr T x y, tt, pos, aft, none⟩ :: rest) f m :=
  ro_indexSl hx hy hT hs h1 h2 hd (by simpa using h)
theorem ro_indexArr {x y : Operand} {b o len : Nat} {k : IntKind} {i : Int} {e s : Nat} (hx : ev f x = .pointer (some ⟨b, o, none⟩)) (hy : ev f y = .int k i) (hT : TyC.tk P T = .arr len e) (hs : TyC.sz P e = s + 1)
    (h1 : 0 ≤ i) (h2 : i < len) (hd : dstOk n d = true)
    (h : RO P G qs c n h0 ops Q rest (updo f d (.pointer (some ⟨b, o + i.toNat * (s + 1), none⟩))) m) : RO P G qs c n h0 ops Q (⟨d, .indexAddr T x y, tt, pos, aft, none⟩ :: rest) f m :=
  ro_pure rfl rfl hd (fun w => by simp [execOp, hx, hy, Instr.indexAt, asIntOf, run_underlying (u_arr hT), h1, h2, run_sizeOf hs (by omega), Addr_add, Instr.sureAddr]) h
theorem ro_indexArr1 {x y : Operand} {b o len : Nat} {k : IntKind} {i : Int} {e : Nat} (hx : ev f x = .pointer (some ⟨b, o, none⟩)) (hy : ev f y = .int k i) (hT : TyC.tk P T = .arr len e) (hs : TyC.sz P e = 1)
    (h1 : 0 ≤ i) (h2 : i < len) (hd : dstOk n d = true)
    (h : RO P G qs c n h0 ops Q rest (updo f d (.pointer (some ⟨b, o + i.toNat, none⟩))) m) : RO P G qs c n h0 ops Q (⟨d, .indexAddr T x y, tt, pos, aft, none⟩ :: rest) f m :=
  ro_indexArr hx hy hT hs h1 h2 hd (by simpa using h)

end
end Go.Eng

/-! AN ENGINE OF WALKS, PART 4: MEMORY: reads, stores, new blocks. -/
namespace Go.Eng
open Go

/-! Contents -/
def one1 : Value → Bool
  | .agg _ | .tuple _ => false
  | _ => true

/-- k places from place 'at_' on, laid out of src; the others as they were. -/
def blit (g : Nat → Value) (at_ k : Nat) (src : Nat → Value) : Nat → Value := fun i => bif Nat.ble at_ i && Nat.blt i (at_ + k) then src (i - at_) else g i
def listG (l : List Value) : Nat → Value := fun i => l.getD i undef
def tabL : Nat → (Nat → Value) → List Value
  | 0, _ => []
  | k + 1, g => g 0 :: tabL k fun i => g (i + 1)

theorem blit_in (g : Nat → Value) (a k : Nat) (src : Nat → Value) (i : Nat) (h1 : a ≤ i) (h2 : i < a + k) : blit g a k src i = src (i - a) := by
  have e1 : Nat.ble a i = true := by rw [Nat.ble_eq]; exact h1
  have e2 : Nat.blt i (a + k) = true := by simpa [Nat.blt_eq] using h2
  simp [blit, e1, e2]
theorem blit_out (g : Nat → Value) (a k : Nat) (src : Nat → Value) (i : Nat) (h : i < a ∨ a + k ≤ i) : blit g a k src i = g i := by
  have e : (Nat.ble a i && Nat.blt i (a + k)) = false := by
    rw [Bool.and_eq_false_iff]
    rcases h with h | h
    · left; cases hb : Nat.ble a i with
      | false => rfl
      | true => have := Nat.le_of_ble_eq_true hb; omega
    · right; cases hb : Nat.blt i (a + k) with
      | false => rfl
      | true => have : i < a + k := by simpa [Nat.blt_eq] using hb
                omega
  simp [blit, e]
theorem blit_zero (g : Nat → Value) (a : Nat) (src : Nat → Value) : blit g a 0 src = g := by
  funext i; exact blit_out _ _ _ _ _ (by omega)
theorem blit_one (g : Nat → Value) (a : Nat) (src : Nat → Value) : blit g a 1 src = upd g a (src 0) := by
  funext i
  by_cases h : i = a
  · subst h; rw [blit_in _ _ _ _ _ (by omega) (by omega), upd_same]; simp
  · rw [blit_out _ _ _ _ _ (by omega), upd_other _ _ _ _ h]
theorem tabL_length (k : Nat) : ∀ g, (tabL k g).length = k := by
  induction k with
  | zero => intro g; rfl
  | succ k ih => intro g; simp [tabL, ih]
theorem tabL_get (k : Nat) : ∀ g i, i < k → (tabL k g)[i]? = some (g i) := by
  induction k with
  | zero => intro g i h; omega
  | succ k ih => intro g i h; cases i with
    | zero => rfl
    | succ i => simp only [tabL, List.getElem?_cons_succ]; exact ih _ i (by omega)
theorem tabL_eq (k : Nat) (g : Nat → Value) : ((List.range k).map g) = tabL k g := by
  apply List.ext_getElem?
  intro i
  by_cases h : i < k
  · rw [tabL_get k g i h]; simp [h]
  · simp [h, List.getElem?_eq_none (show (tabL k g).length ≤ i by rw [tabL_length]; omega)]
theorem listG_tabL (k : Nat) (g : Nat → Value) (i : Nat) (h : i < k) : listG (tabL k g) i = g i := by
  simp [listG, tabL_get k g i h]

section
variable {P : Program}

theorem cell_of {w : World} {b : Nat} {B : Blk} (h : w.heap[b]? = some B.obj) {o : Nat} (ho : o < B.n) : w.cell? ⟨b, o, none⟩ = some (B.g o) := by
  unfold World.cell?
  simp only [h, Blk.obj]
  simpa using B.get o ho
theorem frozen_of {w : World} {b : Nat} {B : Blk} (h : w.heap[b]? = some B.obj) (hf : B.fr = (0, 0)) (o : Nat) : w.frozen? ⟨b, o, none⟩ = false := by
  unfold World.frozen?
  simp only [h, Blk.obj, hf]
  simp

theorem run_loadCells_blk {w : World} {b : Nat} {B : Blk} (h : w.heap[b]? = some B.obj) {o k : Nat} (ho : o + k ≤ B.n) :
    (loadCells ⟨b, o, none⟩ k).run P w = .ok (tabL k fun i => B.g (o + i)).toArray w := by
  rw [run_loadCells w ⟨b, o, none⟩ k (fun i => B.g (o + i)) (fun j hj => by rw [Addr_add]; exact cell_of h (by omega)), tabL_eq]

/-- The heap with one block turned. -/
structure Turned (h : Heap) (b : Nat) (B' : Blk) (h' : Heap) : Prop where
  size : h'.size = h.size
  new : h'[b]? = some B'.obj
  old : ∀ i, i ≠ b → h'[i]? = h[i]?

theorem setCell_turned {w : World} {b : Nat} {B : Blk} (h : w.heap[b]? = some B.obj) (o : Nat) (v : Value) :
    Turned w.heap b ⟨B.n, upd B.g o v, B.T, B.fr⟩ (w.setCell ⟨b, o, none⟩ v).heap := by
  refine ⟨by simp [World.setCell], ?_, fun i hi => by simp [World.setCell, Array.getElem?_modify, Ne.symm hi]⟩
  simp only [World.setCell, Array.getElem?_modify, if_true, h, Option.map_some, Blk.obj]
  congr 2
  apply Array.ext_getElem?
  intro i
  rw [show (none : Option Nat).isSome = false from rfl]
  simp only [Bool.false_eq_true, if_false, Array.getElem?_setIfInBounds]
  by_cases hi : i < B.n
  · have e1 := Blk.get ⟨B.n, upd B.g o v, B.T, B.fr⟩ i hi
    rw [e1]
    by_cases hio : o = i
    · subst hio; simp [upd_same, Blk.size, hi]
    · rw [if_neg hio, Blk.get B i hi]; show some (B.g i) = some (upd B.g o v i); rw [upd_other _ _ _ _ (Ne.symm hio)]
  · have e1 : (Blk.mk B.n (upd B.g o v) B.T B.fr).cells[i]? = none := Array.getElem?_eq_none (by rw [Blk.size]; exact Nat.le_of_not_lt hi)
    rw [e1]
    have e2 := Blk.size B
    split
    · split
      · omega
      · rfl
    · exact Array.getElem?_eq_none (by omega)

theorem Put.at {m m' : Mem} {b : Nat} {B B' : Blk} (p : Put m b B B' m') (hn : (m.map (·.1)).Nodup) : ∀ q ∈ m', (q.1 = b → q = (b, B')) ∧ (q.1 ≠ b → q ∈ m) := by
  induction p with
  | here =>
    intro q hq
    simp only [List.map_cons, List.nodup_cons, List.mem_map, not_exists, not_and] at hn
    rcases List.mem_cons.1 hq with rfl | hq
    · exact ⟨fun _ => rfl, fun h => absurd rfl h⟩
    · exact ⟨fun h => absurd h (hn.1 q hq), fun _ => List.mem_cons_of_mem _ hq⟩
  | there p ih =>
    intro q hq
    simp only [List.map_cons, List.nodup_cons, List.mem_map, not_exists, not_and] at hn
    rcases List.mem_cons.1 hq with rfl | hq
    · exact ⟨fun h => absurd h.symm (hn.1 _ p.mem), fun _ => List.mem_cons_self⟩
    · exact ⟨(ih hn.2 q hq).1, fun h => List.mem_cons_of_mem _ ((ih hn.2 q hq).2 h)⟩

theorem Own.turned {h0 : Base} {G m m' : Mem} {h h' : Heap} {b : Nat} {B B' : Blk} (o : Own h0 G m h) (hex : h0.ex = false) (p : Put m b B B' m') (t : Turned h b B' h') : Own h0 G m' h' where
  ex := fun e => by rw [hex] at e; cases e
  size := by rw [t.size]; exact o.size
  nodup := by
    have := o.nodup
    simp only [List.map_append] at this ⊢
    rw [p.keys]; exact this
  has := by
    intro q hq
    have hnd := o.nodup
    simp only [List.map_append, List.nodup_append] at hnd
    rcases List.mem_append.1 hq with hq' | hq'
    · have h1 := p.at hnd.1 q hq'
      by_cases hqb : q.1 = b
      · rw [h1.1 hqb]; exact t.new
      · rw [t.old _ hqb]; exact o.has q (List.mem_append.2 (.inl (h1.2 hqb)))
    · have hqb : q.1 ≠ b := fun e => hnd.2.2 b (List.mem_map.2 ⟨(b, B), p.mem, rfl⟩) b (List.mem_map.2 ⟨q, hq', e⟩) rfl
      rw [t.old _ hqb]; exact o.has q (List.mem_append.2 (.inr hq'))
  known := by
    intro q hq
    have : q.1 ∈ m.map (·.1) := by rw [← p.keys]; exact List.mem_map.2 ⟨q, hq, rfl⟩
    obtain ⟨q', hq', e⟩ := List.mem_map.1 this
    rw [← e]; exact o.known q' hq'
  old := by
    intro i hi hn
    have hib : i ≠ b := by
      intro he
      subst he
      rcases o.known _ p.mem with hk | hk
      · exact hn hk
      · simp only at hk; omega
    rw [t.old i hib]
    exact o.old i hi hn

/-- A new block. -/
theorem Own.push {h0 : Base} {G m : Mem} {h : Heap} (o : Own h0 G m h) (hex : h0.ex = false) (B : Blk) : Own h0 G ((h.size, B) :: m) (h.push B.obj) where
  ex := fun e => by rw [hex] at e; cases e
  size := by have := o.size; simp; omega
  has := by
    intro q hq
    rcases List.mem_cons.1 hq with rfl | hq
    · simp
    · have := o.lt hq
      rw [Array.getElem?_push, if_neg (by omega)]; exact o.has q hq
  nodup := by
    simp only [List.cons_append, List.map_cons, List.nodup_cons, List.mem_map, not_exists, not_and]
    exact ⟨fun q hq e => by have := o.lt hq; omega, o.nodup⟩
  known := by
    intro q hq
    rcases List.mem_cons.1 hq with rfl | hq
    · exact .inr o.size
    · exact o.known q hq
  old := by
    intro i hi hn
    have := o.size
    rw [Array.getElem?_push, if_neg (by omega)]
    exact o.old i hi hn

theorem Own.tail {h0 : Base} {G m : Mem} {h : Heap} {p : Nat × Blk} (o : Own h0 G (p :: m) h) : Own h0 G m h :=
  Own.drop (junk := [p]) (o.perm (by simpa using (List.perm_append_comm (l₁ := [p]) (l₂ := m))))
theorem Ext.push {h0 : Base} {G : Mem} (hex : h0.ex = false) (B : Blk) (h : Heap) : Ext h0 G h (h.push B.obj) := fun _ o => Own.tail (o.push hex B)

theorem Turned.trans {h h1 h2 : Heap} {b : Nat} {B1 B2 : Blk} (t : Turned h b B1 h1) (t' : Turned h1 b B2 h2) : Turned h b B2 h2 :=
  ⟨t'.size.trans t.size, t'.new, fun i hi => (t'.old i hi).trans (t.old i hi)⟩
theorem Turned.refl {h : Heap} {b : Nat} {B : Blk} (hb : h[b]? = some B.obj) : Turned h b B h := ⟨rfl, hb, fun _ _ => rfl⟩
theorem Turned.congr {h h' : Heap} {b : Nat} {B B' : Blk} (t : Turned h b B h') (e : B.obj = B'.obj) : Turned h b B' h' := ⟨t.size, e ▸ t.new, t.old⟩

theorem At.setCell {c : World} {h : Heap} {w : World} (hc : At c h w) (a : Addr) (v : Value) : At c (w.setCell a v).heap (w.setCell a v) := ⟨rfl, hc.2.1, hc.2.2.1, hc.2.2.2⟩

theorem run_store_blk {w : World} {b : Nat} {B : Blk} (h : w.heap[b]? = some B.obj) (hf : B.fr = (0, 0)) {o : Nat} (ho : o < B.n) {v : Value} (hv : one1 v = true) (m : Mode) :
    (store ⟨b, o, none⟩ v m).run P w = .ok () (w.setCell ⟨b, o, none⟩ v) := by
  unfold store
  cases v <;> first | (cases hv; done) | simp [Sem.run, cell_of h ho, frozen_of h hf]

theorem run_storeCells_blk : ∀ (vs : List Value) (k : Nat) {w : World} {c : World} {b : Nat} {B : Blk} (_ : w.heap[b]? = some B.obj) (_ : B.fr = (0, 0)) {o : Nat} (_ : o + k + vs.length ≤ B.n)
    (_ : ∀ v ∈ vs, one1 v = true) (_ : At c w.heap w), ∃ w', (storeCells ⟨b, o, none⟩ vs k).run P w = .ok () w' ∧ At c w'.heap w' ∧ Turned w.heap b ⟨B.n, blit B.g (o + k) vs.length (listG vs), B.T, B.fr⟩ w'.heap
  | [], k, w, c, b, B, h, hf, o, ho, hv, hc => by
    refine ⟨w, by simp [storeCells], hc, ?_⟩
    rw [List.length_nil, blit_zero]; exact .refl h
  | v :: vs, k, w, c, b, B, h, hf, o, ho, hv, hc => by
    simp only [List.length_cons] at ho
    have h1 : (store (Addr.add ⟨b, o, none⟩ k) v).run P w = .ok () (w.setCell ⟨b, o + k, none⟩ v) := by
      rw [Addr_add]; exact run_store_blk h hf (by omega) (hv v List.mem_cons_self) .plain
    have t := setCell_turned h (o + k) v
    obtain ⟨w', hr, hc', t'⟩ := run_storeCells_blk vs (k + 1) (B := ⟨B.n, upd B.g (o + k) v, B.T, B.fr⟩) t.new hf (o := o) (by simp; omega) (fun u hu => hv u (List.mem_cons_of_mem _ hu)) (hc.setCell _ _)
    refine ⟨w', by simp [storeCells, h1, hr], hc', (t.trans t').congr ?_⟩
    unfold Blk.obj
    congr 1
    apply Blk.cells_congr
    intro i hi
    simp only [List.length_cons]
    by_cases h1 : i = o + k
    · subst h1
      rw [blit_out _ _ _ _ _ (by omega), upd_same, blit_in _ _ _ _ _ (by omega) (by omega)]
      simp [listG]
    · by_cases h2 : o + k < i ∧ i < o + k + (vs.length + 1)
      · rw [blit_in _ _ _ _ _ (by omega) (by omega), blit_in _ _ _ _ _ (by omega) (by omega)]
        obtain ⟨j, hj⟩ : ∃ j, i = o + k + 1 + j := ⟨i - (o + k + 1), by omega⟩
        subst hj
        rw [show o + k + 1 + j - (o + (k + 1)) = j by omega, show o + k + 1 + j - (o + k) = j + 1 by omega]
        simp [listG]
      · rw [blit_out _ _ _ _ _ (by omega), blit_out _ _ _ _ _ (by omega), upd_other _ _ _ _ h1]

end
end Go.Eng
