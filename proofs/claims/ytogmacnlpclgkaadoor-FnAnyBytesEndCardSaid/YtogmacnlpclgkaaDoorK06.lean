/-
  TEXTS MERGED: Eng8, EngA.
-/
import Derived.Test.YtogmacnlpclgkaaDoorK05
/-! AN ENGINE OF WALKS, PART 8: WHOLE NUMBERS; THE WALK THROUGH A REGION BY ITSELF. -/
namespace Go.Eng
open Go

/-! Bits -/
theorem ofInt_toNat {k : Nat} {a : Int} (h0 : 0 ≤ a) (h1 : a < 2 ^ k) : (BitVec.ofInt k a).toNat = a.toNat := by
  obtain ⟨n, rfl⟩ := Int.eq_ofNat_of_zero_le h0
  have hn : n < 2 ^ k := by exact_mod_cast h1
  simp [Nat.mod_eq_of_lt hn]
theorem wrap_of_lt {k : IntKind} (hk : k.signed = false) {a : Int} (h0 : 0 ≤ a) (h1 : a < 2 ^ k.bits) : k.wrap a = a := by
  unfold IntKind.wrap
  simp [hk, Int.emod_eq_of_lt h0 h1]
theorem wrap_signed_of_lt {k : IntKind} {a : Int} (h0 : 0 ≤ a) (h1 : a < 2 ^ (k.bits - 1)) : k.wrap a = a := by
  have hk : (2 : Int) ^ (k.bits - 1) ≤ 2 ^ k.bits := by cases k <;> decide
  unfold IntKind.wrap
  rw [Int.emod_eq_of_lt h0 (by omega)]
  dsimp only
  split
  · rename_i h; simp at h; omega
  · rfl
/-- and with 2^j - 1 -/
theorem and_mask {k : IntKind} {a c : Int} {j : Nat} (hc : c = 2 ^ j - 1) (hj : j < k.bits) (h0 : 0 ≤ a) (h1 : a < 2 ^ k.bits) :
    k.wrap (BitVec.ofInt k.bits a &&& BitVec.ofInt k.bits c).toNat = a % 2 ^ j := by
  have hp : (2 : Int) ^ j ≤ 2 ^ (k.bits - 1) := by
    have : (2 : Nat) ^ j ≤ 2 ^ (k.bits - 1) := Nat.pow_le_pow_right (by omega) (by omega)
    exact_mod_cast this
  have hp2 : (2 : Int) ^ (k.bits - 1) ≤ 2 ^ k.bits := by cases k <;> decide
  have hpos : (0 : Int) < 2 ^ j := Int.pow_pos (by omega)
  have h3 : (BitVec.ofInt k.bits a &&& BitVec.ofInt k.bits c).toNat = a.toNat % 2 ^ j := by
    rw [BitVec.toNat_and, ofInt_toNat h0 h1, ofInt_toNat (by omega) (by omega)]
    have : c.toNat = 2 ^ j - 1 := by
      subst hc
      have : ((2 : Int) ^ j - 1) = (((2 ^ j - 1 : Nat)) : Int) := by
        have h2 : 1 ≤ (2 : Nat) ^ j := Nat.one_le_two_pow
        rw [Int.ofNat_sub h2]; simp
      rw [this]; simp
    rw [this, Nat.and_two_pow_sub_one_eq_mod]
  rw [h3]
  have h4 : ((a.toNat % 2 ^ j : Nat) : Int) = a % 2 ^ j := by
    obtain ⟨n, rfl⟩ := Int.eq_ofNat_of_zero_le h0
    simp
  rw [h4]
  have h5 := Int.emod_nonneg a (show (2 : Int) ^ j ≠ 0 by omega)
  have h6 := Int.emod_lt_of_pos a hpos
  exact wrap_signed_of_lt h5 (by omega)
/-- or of what does not meet -/
theorem or_add {k : IntKind} {a b : Int} (j : Nat) (h0 : 0 ≤ a) (h1 : a < 2 ^ j) (hb0 : 0 ≤ b) (hb : b % 2 ^ j = 0) (hs : k.signed = false) (hlt : a + b < 2 ^ k.bits) :
    k.wrap (BitVec.ofInt k.bits a ||| BitVec.ofInt k.bits b).toNat = a + b := by
  rw [BitVec.toNat_or, ofInt_toNat h0 (by omega), ofInt_toNat hb0 (by omega)]
  obtain ⟨x, rfl⟩ := Int.eq_ofNat_of_zero_le h0
  obtain ⟨y, rfl⟩ := Int.eq_ofNat_of_zero_le hb0
  have hx : x < 2 ^ j := by exact_mod_cast h1
  have hy : y % 2 ^ j = 0 := by exact_mod_cast hb
  have hor : x ||| y = x + y := by
    obtain ⟨z, rfl⟩ : ∃ z, y = 2 ^ j * z := ⟨y / 2 ^ j, by have := Nat.div_add_mod y (2 ^ j); omega⟩
    rw [Nat.or_comm, ← Nat.two_pow_add_eq_or_of_lt hx]; omega
  simp only [Int.toNat_natCast, hor]
  rw [wrap_of_lt hs (by omega) (by exact_mod_cast hlt)]
  simp
theorem fdiv_pow (a : Int) (j : Nat) : a.fdiv (2 ^ j) = a / 2 ^ j := Int.fdiv_eq_ediv_of_nonneg _ (Int.le_of_lt (Int.pow_pos (by omega)))

section
variable {P : Program} {G : Mem} {qs : List FuncId} {c : World} {n : Nat} {h0 : Base} {ops : Array Oper} {Q : Fr → Mem → Prop} {rest : List Oper} {f : Fr} {m : Mem}
variable {d : Option Tmp} {T T' tt : TypeId} {pos : String} {aft : Array Edge}

theorem ro_shlL {x y : Operand} {k k' : IntKind} {a b p : Int} (hx : ev f x = .int k a) (hy : ev f y = .int k' b) (hb0 : 0 ≤ b) (hb : b ≤ k.bits) (hp : (2 : Int) ^ b.toNat = p) (hv : k.wrap (a * p) = a * p) (hd : dstOk n d = true)
    (h : RO P G qs c n h0 ops Q rest (updo f d (.int k (a * p))) m) : RO P G qs c n h0 ops Q (⟨d, .binOp .shl T x y T', tt, pos, aft, none⟩ :: rest) f m := by
  refine ro_shl hx hy hb0 hd ?_
  rw [Nat.min_eq_left (by omega), hp, hv]; exact h
theorem ro_shlW {x y : Operand} {k k' : IntKind} {a b p r : Int} (hx : ev f x = .int k a) (hy : ev f y = .int k' b) (hb0 : 0 ≤ b) (hb : b ≤ k.bits) (hp : (2 : Int) ^ b.toNat = p) (hw : k.wrap (a * p) = r) (hd : dstOk n d = true)
    (h : RO P G qs c n h0 ops Q rest (updo f d (.int k r)) m) : RO P G qs c n h0 ops Q (⟨d, .binOp .shl T x y T', tt, pos, aft, none⟩ :: rest) f m := by
  refine ro_shl hx hy hb0 hd ?_
  rw [Nat.min_eq_left (by omega), hp, hw]; exact h
theorem ro_shrL {x y : Operand} {k k' : IntKind} {a b p : Int} (hx : ev f x = .int k a) (hy : ev f y = .int k' b) (hb0 : 0 ≤ b) (hb : b ≤ k.bits) (hp : (2 : Int) ^ b.toNat = p) (hd : dstOk n d = true)
    (h : RO P G qs c n h0 ops Q rest (updo f d (.int k (a / p))) m) : RO P G qs c n h0 ops Q (⟨d, .binOp .shr T x y T', tt, pos, aft, none⟩ :: rest) f m := by
  refine ro_shr hx hy hb0 hd ?_
  rw [Nat.min_eq_left (by omega), fdiv_pow, hp]; exact h
theorem ro_andM {x y : Operand} {k : IntKind} {a c' : Int} (j : Nat) (hx : ev f x = .int k a) (hy : ev f y = .int k c') (hc : c' = 2 ^ j - 1) (hj : Nat.blt j k.bits = true) (ha0 : 0 ≤ a) (ha1 : a < 2 ^ k.bits) (hd : dstOk n d = true)
    (h : RO P G qs c n h0 ops Q rest (updo f d (.int k (a % 2 ^ j))) m) : RO P G qs c n h0 ops Q (⟨d, .binOp .and T x y T', tt, pos, aft, none⟩ :: rest) f m :=
  ro_bin hx hy rfl hd (by rw [and_mask hc (by simpa [Nat.blt_eq] using hj) ha0 ha1]; exact h)
theorem ro_orA {x y : Operand} {k : IntKind} {a b : Int} (j : Nat) (hx : ev f x = .int k a) (hy : ev f y = .int k b) (ha0 : 0 ≤ a) (ha1 : a < 2 ^ j) (hb0 : 0 ≤ b) (hb : b % 2 ^ j = 0) (hs : k.signed = false) (hlt : a + b < 2 ^ k.bits) (hd : dstOk n d = true)
    (h : RO P G qs c n h0 ops Q rest (updo f d (.int k (a + b))) m) : RO P G qs c n h0 ops Q (⟨d, .binOp .or T x y T', tt, pos, aft, none⟩ :: rest) f m :=
  ro_bin hx hy rfl hd (by rw [or_add j ha0 ha1 hb0 hb hs hlt]; exact h)
theorem ro_orB {x y : Operand} {k : IntKind} {a b : Int} (j : Nat) (hx : ev f x = .int k a) (hy : ev f y = .int k b) (hb0 : 0 ≤ b) (hb1 : b < 2 ^ j) (ha0 : 0 ≤ a) (ha : a % 2 ^ j = 0) (hs : k.signed = false) (hlt : a + b < 2 ^ k.bits) (hd : dstOk n d = true)
    (h : RO P G qs c n h0 ops Q rest (updo f d (.int k (a + b))) m) : RO P G qs c n h0 ops Q (⟨d, .binOp .or T x y T', tt, pos, aft, none⟩ :: rest) f m :=
  ro_bin hx hy rfl hd (by
    have := or_add (k := k) j hb0 hb1 ha0 ha hs (by omega)
    rw [BitVec.or_comm, this, Int.add_comm]; exact h)
theorem J_condT' {c : World} {Q : Exit → Fr → Mem → Prop} {x : Operand} {y z : Code} {b : Bool} (hb : ev f x = .bool b) (ht : b = true) (h1 : J P G c n h0 y Q f m) : J P G c n h0 (.cond x y z) Q f m := J_condT (ht ▸ hb) h1
theorem J_condF' {c : World} {Q : Exit → Fr → Mem → Prop} {x : Operand} {y z : Code} {b : Bool} (hb : ev f x = .bool b) (ht : b = false) (h1 : J P G c n h0 z Q f m) : J P G c n h0 (.cond x y z) Q f m := J_condF (ht ▸ hb) h1
end

/-! Many operations at once -/
/-- The value, its head made plain. -/
def force : Value → Option Value
  | .bool b => some (.bool b)
  | .int k n => some (.int k n)
  | .string s => some (.string s)
  | .pointer (some ⟨b, o, s⟩) => some (.pointer (some ⟨b, o, s⟩))
  | .pointer none => some (.pointer none)
  | .slice a n c => some (.slice a n c)
  | .func f a b => some (.func f a b)
  | .nilFunc => some .nilFunc
  | .iface t v => some (.iface t v)
  | .nilIface => some .nilIface
  | .agg ⟨l⟩ => some (.agg ⟨l⟩)
  | .tuple ⟨l⟩ => some (.tuple ⟨l⟩)
  | _ => none
theorem force_eq {v u : Value} (h : force v = some u) : v = u := by
  unfold force at h
  split at h <;> first | (cases h; rfl) | cases h

/-- What an operation that only reckons gives, where no bound is asked for. -/
def stepV (P : Program) [TyC P] (f : Fr) : Op → Option Value
  | .move x | .assign x => force (ev f x)
  | .nilCheck x => match ev f x with
    | .pointer (some ⟨b, o, s⟩) => some (.pointer (some ⟨b, o, s⟩))
    | _ => none
  | .fieldAddr T x i => match ev f x with
    | .pointer (some ⟨b, o, none⟩) => match fieldOf (TyC.tk P T) i with
      | some (off, T') => bif Nat.beq (TyC.sz P T') 0 then none else some (.pointer (some ⟨b, o + off, none⟩))
      | none => none
    | _ => none
  | .extract x i => match ev f x with
    | .tuple ⟨l⟩ => match l[i]? with
      | some v => force v
      | none => none
    | _ => none
  | .binOp .lss _ x y _ => match ev f x, ev f y with
    | .int k a, .int k' b => bif kindEq k k' then some (.bool (decide (a < b))) else none
    | _, _ => none
  | .binOp .leq _ x y _ => match ev f x, ev f y with
    | .int k a, .int k' b => bif kindEq k k' then some (.bool (decide (a ≤ b))) else none
    | _, _ => none
  | .binOp .gtr _ x y _ => match ev f x, ev f y with
    | .int k a, .int k' b => bif kindEq k k' then some (.bool (decide (a > b))) else none
    | _, _ => none
  | .binOp .geq _ x y _ => match ev f x, ev f y with
    | .int k a, .int k' b => bif kindEq k k' then some (.bool (decide (a ≥ b))) else none
    | _, _ => none
  | .call ⟨.builtin .len, ⟨[x]⟩, ⟨T :: _⟩⟩ => match ev f x, TyC.tk P T with
    | .slice _ n _, .sl _ => some (.int .i64 n)
    | _, _ => none
  | .call ⟨.builtin .cap, ⟨[x]⟩, ⟨T :: _⟩⟩ => match ev f x, TyC.tk P T with
    | .slice _ _ n, .sl _ => some (.int .i64 n)
    | _, _ => none
  | .makeInterface T x => match force (ev f x) with
    | some v => bif concTk (TyC.tk P T) then some (.iface T v) else none
    | none => none
  | _ => none
  where
  kindEq : IntKind → IntKind → Bool
    | .i8, .i8 | .i16, .i16 | .i32, .i32 | .i64, .i64 | .u8, .u8 | .u16, .u16 | .u32, .u32 | .u64, .u64 => true
    | _, _ => false

theorem kindEq_eq {k k' : IntKind} (h : stepV.kindEq k k' = true) : k = k' := by cases k <;> cases k' <;> first | rfl | cases h

theorem stepV_run {P : Program} [TyC P] {f : Fr} {o : Oper} {v : Value} (h : stepV P f o.op = some v) (w : World) : (execOp (ev f) o).run P w = .ok (.value v) w := by
  obtain ⟨d, op, tt, pos, aft, g⟩ := o
  simp only at h
  unfold stepV at h
  split at h
  · rename_i x; simp [execOp, force_eq h]
  · rename_i x; simp [execOp, force_eq h]
  · rename_i x
    split at h
    · rename_i b o s hx; cases h; simp [execOp, hx]
    · cases h
  · rename_i T x i
    split at h
    · rename_i b o hx
      split at h
      · rename_i off T' hT
        cases hz : Nat.beq (TyC.sz P T') 0 with
        | true => rw [hz] at h; cases h
        | false =>
          rw [hz] at h
          cases h
          have hne : TyC.sz P T' ≠ 0 := fun e => by rw [e] at hz; cases hz
          obtain ⟨s, hs⟩ : ∃ s, TyC.sz P T' = s + 1 := ⟨TyC.sz P T' - 1, by omega⟩
          unfold fieldOf at hT
          split at hT
          · rename_i fs hk
            obtain ⟨fl, hf, hl⟩ := u_st hk
            subst hl
            simp only [List.getElem?_map, Option.map_eq_some_iff, Array.getElem?_toList] at hT
            obtain ⟨fd, hfd, he⟩ := hT
            simp only [Prod.mk.injEq] at he
            obtain ⟨rfl, rfl⟩ := he
            simp [execOp, hx, Instr.fieldAt, run_underlying hf, hfd, Instr.sureAddr, fieldPlace, run_sizeOf hs (by omega), Addr_add]
          · cases hT
      · cases h
    · cases h
  · rename_i x i
    split at h
    · rename_i l hx
      split at h
      · rename_i u hu
        simp [execOp, hx, Instr.extract, hu, force_eq h]
      · cases h
    · cases h
  · split at h
    · rename_i k a k' b hx hy
      cases hk : stepV.kindEq k k' with
      | false => rw [hk] at h; cases h
      | true => rw [hk] at h; cases h; cases kindEq_eq hk; simp [execOp, hx, hy, eqGuard, binOp, Op.intCmp]
    · cases h
  · split at h
    · rename_i k a k' b hx hy
      cases hk : stepV.kindEq k k' with
      | false => rw [hk] at h; cases h
      | true => rw [hk] at h; cases h; cases kindEq_eq hk; simp [execOp, hx, hy, eqGuard, binOp, Op.intCmp]
    · cases h
  · split at h
    · rename_i k a k' b hx hy
      cases hk : stepV.kindEq k k' with
      | false => rw [hk] at h; cases h
      | true => rw [hk] at h; cases h; cases kindEq_eq hk; simp [execOp, hx, hy, eqGuard, binOp, Op.intCmp]
    · cases h
  · split at h
    · rename_i k a k' b hx hy
      cases hk : stepV.kindEq k k' with
      | false => rw [hk] at h; cases h
      | true => rw [hk] at h; cases h; cases kindEq_eq hk; simp [execOp, hx, hy, eqGuard, binOp, Op.intCmp]
    · cases h
  · split at h
    · rename_i a n' c' e hx hT
      cases h
      simp [execOp, resolve, invoke, builtin, Builtin.len_, hx, run_underlying (u_sl hT), goInt]
    · cases h
  · split at h
    · rename_i a n' c' e hx hT
      cases h
      simp [execOp, resolve, invoke, builtin, Builtin.cap_, hx, run_underlying (u_sl hT), goInt]
    · cases h
  · rename_i T x
    split at h
    · rename_i u hu
      cases hk : concTk (TyC.tk P T) with
      | false => rw [hk] at h; cases h
      | true =>
        rw [hk] at h
        cases h
        have hx := force_eq hu
        cases hk2 : TyC.tk P T <;> rw [hk2] at hk <;> first | (cases hk; done) | skip
        case int k => simp [execOp, hx, Instr.makeInterface, run_underlying (u_int hk2)]
        case bool => simp [execOp, hx, Instr.makeInterface, run_underlying (u_bool hk2)]
        case string => simp [execOp, hx, Instr.makeInterface, run_underlying (u_string hk2)]
        case ptr e => simp [execOp, hx, Instr.makeInterface, run_underlying (u_ptr hk2)]
        case sl e => simp [execOp, hx, Instr.makeInterface, run_underlying (u_sl hk2)]
        case arr k e => simp [execOp, hx, Instr.makeInterface, run_underlying (u_arr hk2)]
        case st fs => obtain ⟨fl, hf, _⟩ := u_st hk2; simp [execOp, hx, Instr.makeInterface, run_underlying hf]
        case fn => obtain ⟨_, _, _, hf⟩ := u_fn hk2; simp [execOp, hx, Instr.makeInterface, run_underlying hf]
    · cases h
  · cases h

/-- As many of them as there are, one behind the other. -/
def runPure (P : Program) [TyC P] (n : Nat) : List Oper → Fr → List Oper × Fr
  | [], f => ([], f)
  | o :: rest, f => match o.guard with
    | some _ => (o :: rest, f)
    | none => bif dstOk n o.dst then (match stepV P f o.op with
        | some v => runPure P n rest (updo f o.dst v)
        | none => (o :: rest, f)) else (o :: rest, f)
theorem stepV_cls {P : Program} [TyC P] {f : Fr} {op : Op} {v : Value} {qs : List FuncId} (h : stepV P f op = some v) : cls qs op = 0 := by
  unfold stepV at h
  split at h <;> first | rfl | (cases h; done)
theorem ro_batch {P : Program} [TyC P] {G : Mem} {qs : List FuncId} {c : World} {n : Nat} {h0 : Base} {ops : Array Oper} {Q : Fr → Mem → Prop} {l l' : List Oper} {f f' : Fr} {m : Mem}
    (hb : runPure P n l f = (l', f')) (h : RO P G qs c n h0 ops Q l' f' m) : RO P G qs c n h0 ops Q l f m := by
  induction l generalizing f with
  | nil => simp only [runPure, Prod.mk.injEq] at hb; obtain ⟨rfl, rfl⟩ := hb; exact h
  | cons o rest ih =>
    unfold runPure at hb
    split at hb
    · simp only [Prod.mk.injEq] at hb; obtain ⟨rfl, rfl⟩ := hb; exact h
    · rename_i hg
      cases hd : dstOk n o.dst with
      | false => rw [hd] at hb; simp only [cond_false, Prod.mk.injEq] at hb; obtain ⟨rfl, rfl⟩ := hb; exact h
      | true =>
        rw [hd] at hb
        simp only [cond_true] at hb
        split at hb
        · rename_i v hv
          exact ro_pure (stepV_cls hv) hg hd (stepV_run hv) (ih hb)
        · simp only [Prod.mk.injEq] at hb; obtain ⟨rfl, rfl⟩ := hb; exact h

/-! Ends of functions -/
def retV : List Value → Value
  | [v] => v
  | vs => .tuple vs.toArray
theorem results_tmps {fn : Func} {ts : List Nat} (hres : fn.results = (ts.map ResultVar.tmp).toArray) {P : Program} {n : Nat} {a : Act} {f : Fr} (r : Rep n a f) (w : World) : (results fn a.tmps).run P w = .ok (retV (ts.map f)) w := by
  have key : ∀ (ts : List Nat) , ((ts.map ResultVar.tmp).mapM (fun | .tmp t => pure (a.tmps.getD t undef) | .cell ad t => do loadVar t (← asAddr (a.tmps.getD ad undef))) : Sem (List Value)).run P w = .ok (ts.map f) w := by
    intro ts
    induction ts with
    | nil => simp
    | cons t ts ih =>
      simp only [List.map_cons, List.mapM_cons, Sem.run_bind, Sem.run_pure, Result.andThen_ok]
      rw [ih]
      simp only [Result.andThen_ok, Sem.run_pure]
      rw [r.slot t]
  unfold results
  rw [hres]
  simp only [Sem.run_bind, List.mapM_toArray, Sem.run_map]
  erw [key ts]
  simp only [Result.andThen_ok, Sem.run_pure]
  congr 1
  cases h : ts.map f with
  | nil => simp [retV]
  | cons v vs => cases vs <;> simp [retV]

theorem ends_ret {P : Program} {G : Mem} {c : World} {fn : Func} {h0 : Base} {R : Value → Mem → Prop} {f : Fr} {m : Mem} (ts : List Nat) (hres : fn.results = (ts.map ResultVar.tmp).toArray) {post junk : Mem} (hp : MEqv m (post ++ junk)) (hR : R (retV (ts.map f)) post) :
    Ends P G c fn h0 R .ret f m :=
  ⟨_, post, junk, fun a w h r _ _ => results_tmps hres r w, hp, hR⟩
theorem ends_normal {P : Program} {G : Mem} {c : World} {fn : Func} {h0 : Base} {R : Value → Mem → Prop} {f : Fr} {m : Mem} (ts : List Nat) (hres : fn.results = (ts.map ResultVar.tmp).toArray) {post junk : Mem} (hp : MEqv m (post ++ junk)) (hR : R (retV (ts.map f)) post) :
    Ends P G c fn h0 R .normal f m :=
  ⟨_, post, junk, fun a w h r _ _ => results_tmps hres r w, hp, hR⟩

end Go.Eng

/-! AN ENGINE OF WALKS, MORE RULES: struct values of single cells; loads out of either memory; pointers in interface values. -/
namespace Go.Eng
open Go

/-- The parts set in their places. -/
def setAll (zs : List Value) : List (Nat × Value) → List Value
  | [] => zs
  | (i, v) :: r => setAll (zs.set i v) r
/-- All fields of one cell, the i-th at place i. -/
def flatB (sz : TypeId → Nat) : Nat → List (Nat × TypeId) → Bool
  | _, [] => true
  | i, (o, T) :: r => Nat.beq o i && Nat.beq (sz T) 1 && flatB sz (i + 1) r
def flatTk (sz : TypeId → Nat) : TK → Bool
  | .st fs => flatB sz 0 fs
  | _ => false
theorem flatB_get {sz : TypeId → Nat} : ∀ {fs : List (Nat × TypeId)} {k : Nat}, flatB sz k fs = true → ∀ i p, fs[i]? = some p → p.1 = k + i ∧ sz p.2 = 1
  | [], _, _, i, p, h => by simp at h
  | (o, T) :: r, k, hb, i, p, h => by
    simp only [flatB, Bool.and_eq_true] at hb
    cases i with
    | zero =>
      simp only [List.getElem?_cons_zero, Option.some.injEq] at h
      subst h
      exact ⟨Nat.eq_of_beq_eq_true hb.1.1, Nat.eq_of_beq_eq_true hb.1.2⟩
    | succ i =>
      simp only [List.getElem?_cons_succ] at h
      have := flatB_get hb.2 i p h
      exact ⟨by omega, this.2⟩

theorem fill_flat (place : Nat → Option (Nat × Nat)) (k : Nat) (hp : ∀ i, i < k → place i = some (i, 1)) : ∀ (parts : List (Nat × Value)) (l : List Value), l.length = k → (∀ p ∈ parts, p.1 < k ∧ one1 p.2 = true) →
    Instr.fill place l.toArray parts = some (setAll l parts).toArray
  | [], l, _, _ => rfl
  | (i, v) :: r, l, hl, hall => by
    obtain ⟨hi, hv⟩ := hall (i, v) List.mem_cons_self
    have hc : v.cells = #[v] := by cases v <;> first | (cases hv; done) | rfl
    unfold Instr.fill
    simp only [hp i hi, hc]
    have h1 : ¬ (#[v].size ≠ 1 ∨ i + #[v].size > l.toArray.size) := by simp; omega
    simp only [List.size_toArray, List.length_cons, List.length_nil]
    have h2 : (decide ((0 + 1) ≠ 1) || decide (i + (0 + 1) > l.length)) = false := by
      rw [Bool.or_eq_false_iff]; exact ⟨by decide, decide_eq_false (by omega)⟩
    simp only [h2, Bool.false_eq_true, if_false]
    have h3 : (#[v].zipIdx.foldl (fun cs (x : Value × Nat) => cs.setIfInBounds (i + x.2) x.1) l.toArray) = (l.set i v).toArray := by
      simp
    have h4 := fill_flat place k hp r (l.set i v) (by simpa using hl) (fun p hp' => hall p (List.mem_cons_of_mem _ hp'))
    simp only [setAll]
    rw [← h4]
    congr 1

section
variable {P : Program} [ty : TyC P] {G : Mem} {qs : List FuncId} {c : World} {n : Nat} {h0 : Base} {ops : Array Oper} {Q : Fr → Mem → Prop} {rest : List Oper} {f : Fr} {m : Mem}
variable {d : Option Tmp} {T T' tt : TypeId} {pos : String} {aft : Array Edge}

omit ty in
theorem run_places {fl : Array Field} {pl : List (Nat × Nat)} (h : ∀ w, fl.toList.map (fun fd => (fd.offset, (sizeOf fd.type).run P w)) = pl.map (fun p => (p.1, Result.ok p.2 w))) (w : World) :
    ((fl.mapM fun fd => do pure (fd.offset, ← sizeOf fd.type) : Sem (Array (Nat × Nat)))).run P w = .ok pl.toArray w := by
  obtain ⟨l⟩ := fl
  simp only [List.mapM_toArray, Sem.run_map] at h ⊢
  have key : ∀ (l : List Field) (pl : List (Nat × Nat)), (∀ w, l.map (fun fd => (fd.offset, (sizeOf fd.type).run P w)) = pl.map (fun p => (p.1, Result.ok p.2 w))) →
      ((l.mapM fun fd => do pure (fd.offset, ← sizeOf fd.type) : Sem (List (Nat × Nat)))).run P w = .ok pl w := by
    intro l
    induction l with
    | nil => intro pl h; cases pl with
      | nil => simp
      | cons p pl => exact absurd (h w) (by simp)
    | cons fd l ih =>
      intro pl h
      cases pl with
      | nil => exact absurd (h w) (by simp)
      | cons p pl =>
        have h1 := fun w => h w
        simp only [List.map_cons, List.cons.injEq, Prod.mk.injEq] at h1
        have e := ih pl (fun w => (h1 w).2)
        simp only [List.mapM_cons, Sem.run_bind, (h1 w).1.2, Result.andThen_ok, Sem.run_pure, e]
        rw [(h1 w).1.1]
  rw [key l pl h]
  rfl

theorem ro_build1G {ps : Array (Nat × Operand)} {parts : List (Nat × Value)} {zs : List Value} {fs : List (Nat × TypeId)} (hk : TyC.tk P T = .st fs) (hfl : flatB (TyC.sz P) 0 fs = true) (hz : zeroL P T = some zs)
    (hps : (ps.map fun (i, x) => (i, ev f x)) = parts.toArray) (hall : parts.all (fun p => Nat.blt p.1 fs.length && one1 p.2) = true) (hlen : zs.length = fs.length) (hd : dstOk n d = true)
    (h : RO P G qs c n h0 ops Q rest (updo f d (.agg (setAll zs parts).toArray)) m) : RO P G qs c n h0 ops Q (⟨d, .build T ps, tt, pos, aft, none⟩ :: rest) f m := by
  refine ro_build (fun w => ?_) hd h
  obtain ⟨fl, hf, hl⟩ := u_st hk
  unfold zeroL at hz
  simp only [Option.bind_eq_some_iff, Option.map_eq_some_iff] at hz
  obtain ⟨i, hi, z, hz, rfl⟩ := hz
  have hflen : fl.size = fs.length := by rw [← hl]; simp
  have hpl : ∀ w, (fl.mapM fun fd => do pure (fd.offset, ← sizeOf fd.type) : Sem (Array (Nat × Nat))).run P w = .ok ((List.range fs.length).map fun i => (i, 1)).toArray w := fun w => by
    refine run_places (fun w => ?_) w
    apply List.ext_getElem?
    intro j
    by_cases hj : j < fs.length
    · have hj' : j < fl.size := by omega
      have hg := flatB_get hfl j (fs[j]) (by simp [hj])
      have he : fs[j]? = some (fl[j].offset, fl[j].type) := by rw [← hl]; simp [hj']
      have he' : fs[j] = (fl[j].offset, fl[j].type) := by simpa [hj] using he
      rw [he'] at hg
      simp only [Nat.zero_add] at hg
      have hs := run_sizeOf (P := P) hg.2 (by omega) w
      simp [hj, hj', hg.1, hs]
    · have hj' : ¬ j < fl.size := by omega
      rw [List.getElem?_eq_none (by simp; omega), List.getElem?_eq_none (by simp; omega)]
  have hfill := fill_flat (fun i => ((List.range fs.length).map fun i => (i, 1))[i]?) fs.length (fun i hi => by simp [hi]) parts z.cells.toList hlen (fun p hp => by
    have := List.all_eq_true.1 hall p hp
    simp only [Bool.and_eq_true] at this
    exact ⟨by simpa [Nat.blt_eq] using this.1, this.2⟩)
  rw [hps]
  simp only [Instr.build, Sem.run_bind, zeroValue, typeInfo, run_program, Result.andThen_ok, hi, Sem.run_pure, hz, run_underlying hf, hpl]
  simp only [Array.toArray_toList, List.getElem?_toArray] at hfill ⊢
  rw [hfill]
  rfl

def evParts (f : Fr) : List (Nat × Operand) → List (Nat × Value)
  | [] => []
  | (i, x) :: r => (i, ev f x) :: evParts f r
omit ty in
theorem evParts_eq (f : Fr) (l : List (Nat × Operand)) : (l.toArray.map fun (i, x) => (i, ev f x)) = (evParts f l).toArray := by
  rw [List.map_toArray]
  congr 1
  induction l with
  | nil => rfl
  | cons p r ih => obtain ⟨i, x⟩ := p; simp only [List.map_cons, evParts, ih]
/-- A struct value of fields of one cell each. -/
theorem ro_build1 {l : List (Nat × Operand)} {zs vs : List Value} {fs : List (Nat × TypeId)} (hk : TyC.tk P T = .st fs) (hfl : flatB (TyC.sz P) 0 fs = true) (hz : zeroL P T = some zs)
    (hall : (evParts f l).all (fun p => Nat.blt p.1 fs.length && one1 p.2) = true) (hlen : zs.length = fs.length) (hvs : setAll zs (evParts f l) = vs) (hd : dstOk n d = true)
    (h : RO P G qs c n h0 ops Q rest (updo f d (.agg vs.toArray)) m) : RO P G qs c n h0 ops Q (⟨d, .build T l.toArray, tt, pos, aft, none⟩ :: rest) f m :=
  ro_build1G hk hfl hz (evParts_eq f l) hall hlen hd (by rw [hvs]; exact h)

/-! Memory of either kind -/
theorem ro_loadA {x : Operand} {b o : Nat} {B : Blk} {v : Value} (hx : ev f x = .pointer (some ⟨b, o, none⟩)) (hT : oneTk (TyC.tk P T) = true) (hm : (b, B) ∈ m ++ G) (hn : o < B.n) (hv : B.g o = v)
    (hd : dstOk n d = true) (h : RO P G qs c n h0 ops Q rest (updo f d v) m) : RO P G qs c n h0 ops Q (⟨d, .load T x, tt, pos, aft, none⟩ :: rest) f m := by
  refine ro_read (Nat.le_refl _) rfl hd (fun _ hp w hw hc => ⟨w, hc, .inl ?_⟩) (fun h => by cases h) h
  have hb : w.heap[b]? = some B.obj := by rw [hc.1]; exact hw.has _ hm
  simp [execOp, hx, Instr.loadAt, Instr.sureAddr, loadVar, run_isAgg_one hT, cell_of hb hn, hv]
theorem ro_loadAggA {x : Operand} {b o s : Nat} {B : Blk} (hx : ev f x = .pointer (some ⟨b, o, none⟩)) (hT : aggTk (TyC.tk P T) = true) (hs : TyC.sz P T = s + 1) (hm : (b, B) ∈ m ++ G) (hn : o + (s + 1) ≤ B.n)
    (hd : dstOk n d = true) (h : RO P G qs c n h0 ops Q rest (updo f d (.agg (tabL (s + 1) fun i => B.g (o + i)).toArray)) m) : RO P G qs c n h0 ops Q (⟨d, .load T x, tt, pos, aft, none⟩ :: rest) f m := by
  refine ro_read (Nat.le_refl _) rfl hd (fun _ hp w hw hc => ⟨w, hc, .inl ?_⟩) (fun h => by cases h) h
  have hb : w.heap[b]? = some B.obj := by rw [hc.1]; exact hw.has _ hm
  simp [execOp, hx, Instr.loadAt, Instr.sureAddr, loadVar, run_isAgg_agg hT, run_sizeOf hs (by omega), run_loadCells_blk hb hn]

/-! Pointers in interface values -/
theorem run_eqIfcPtr {w : World} {t e : TypeId} {i : TypeInfo} {s b o b' o' : Nat} {B B' : Blk} {r : Bool} (hT : TyC.tk P T = .ifc) (ht : TyC.tk P t = .ptr e) (hi : P.info? t = some i) (hcmp : i.comparable = true) (hs : TyC.sz P e = s + 1)
    (hr : (b = b' ∧ r = decide (o = o')) ∨ (b ≠ b' ∧ r = false ∧ w.heap[b]? = some B.obj ∧ w.heap[b']? = some B'.obj ∧ B.fr = (0, 0) ∧ B'.fr = (0, 0))) :
    (Op.equal T (.iface t (.pointer (some ⟨b, o, none⟩))) (.iface t (.pointer (some ⟨b', o', none⟩)))).run P w = .ok r w := run_equal_of fun k => by
  obtain ⟨ms, hm⟩ := u_ifc hT
  rcases hr with ⟨rfl, rfl⟩ | ⟨hne, rfl, g1, g2, hf, hf'⟩
  · have : (({ block := b, off := o } : Addr) == { block := b, off := o' }) = decide (o = o') := by
      by_cases h : o = o'
      · subst h; simp
      · simp [h]
    simp [Op.equalIn, run_underlying hm, typeInfo, hi, hcmp, run_underlying (u_ptr ht), run_sizeOf hs (by omega), sameAddr, this]
  · have s1 : w.shape? b = some (B.T, B.n) := by simp [World.shape?, g1, Blk.obj, Blk.size]
    have s2 : w.shape? b' = some (B'.T, B'.n) := by simp [World.shape?, g2, Blk.obj, Blk.size]
    have z1 : ∀ o, w.frozen? ⟨b, o, none⟩ = false := frozen_of g1 hf
    have z2 : ∀ o, w.frozen? ⟨b', o, none⟩ = false := frozen_of g2 hf'
    simp [Op.equalIn, run_underlying hm, typeInfo, hi, hcmp, run_underlying (u_ptr ht), run_sizeOf hs (by omega), sameAddr, hne, z1, z2, noView, viewAt, s1, s2, mayBeOne, stringish]

theorem ro_eqPtrs {x y : Operand} {t e : TypeId} {i : TypeInfo} {s b o b' o' : Nat} {B B' : Blk} {r : Bool} (hx : ev f x = .iface t (.pointer (some ⟨b, o, none⟩))) (hy : ev f y = .iface t (.pointer (some ⟨b', o', none⟩))) (hT : TyC.tk P T = .ifc) (ht : TyC.tk P t = .ptr e) (hi : P.info? t = some i) (hcmp : i.comparable = true)
    (hs : TyC.sz P e = s + 1) (hr : (b = b' ∧ r = decide (o = o')) ∨ (b ≠ b' ∧ r = false ∧ (b, B) ∈ m ++ G ∧ (b', B') ∈ m ++ G ∧ B.fr = (0, 0) ∧ B'.fr = (0, 0))) (hd : dstOk n d = true)
    (h : RO P G qs c n h0 ops Q rest (updo f d (.bool r)) m) : RO P G qs c n h0 ops Q (⟨d, .binOp .eql T x y T', tt, pos, aft, none⟩ :: rest) f m := by
  have hrun : ∀ hp w, Own h0 G m hp → At c hp w → (execOp (ev f) ⟨d, .binOp .eql T x y T', tt, pos, aft, none⟩).run P w = .ok (.value (.bool r)) w := fun hp w hw hc => by
    have he : (Op.equal T (.iface t (.pointer (some ⟨b, o, none⟩))) (.iface t (.pointer (some ⟨b', o', none⟩)))).run P w = .ok r w := by
      refine run_eqIfcPtr (B := B) (B' := B') hT ht hi hcmp hs ?_
      rcases hr with h1 | ⟨h1, h2, h3, h4, h5, h6⟩
      · exact .inl h1
      · exact .inr ⟨h1, h2, by rw [hc.1]; exact hw.has _ h3, by rw [hc.1]; exact hw.has _ h4, h5, h6⟩
    simp [execOp, hx, hy, eqGuard, binOp, he]
  exact ro_read (Nat.le_refl _) rfl hd (fun _ hp w hw hc => ⟨w, hc, .inl (hrun hp w hw hc)⟩) (fun h => by cases h) h

omit ty in
/-- The blocks are all unlike: to be leant on from a function's begin on. -/
theorem J_nodup {cd : Code} {Q : Exit → Fr → Mem → Prop} (h : ((m ++ G).map (·.1)).Nodup → J P G c n h0 cd Q f m) : J P G c n h0 cd Q f m :=
  fun a w hp r hc o => h o.nodup a w hp r hc o

end
end Go.Eng
