/-
  TEXTS MERGED: Eng5, Eng6.
-/
import Derived.Test.YtogmacnlpclgkaaDoorK03
/-! AN ENGINE OF WALKS, PART 5: THE OPERATIONS THAT READ AND WRITE MEMORY; CALLS. -/
namespace Go.Eng
open Go

section
variable {P : Program} [ty : TyC P] {G : Mem} {qs : List FuncId} {c : World} {n : Nat} {h0 : Base} {ops : Array Oper} {Q : Fr → Mem → Prop} {rest : List Oper} {f : Fr} {m : Mem}
variable {d : Option Tmp} {T T' tt : TypeId} {pos : String} {aft : Array Edge}

omit ty in
theorem Own.get {h : Heap} {w : World} (o : Own h0 G m h) (hc : At c h w) {b : Nat} {B : Blk} (hm : Has m b B) : w.heap[b]? = some B.obj := by
  rw [hc.1]; exact o.has _ (List.mem_append.2 (.inl hm.mem))
omit ty in
theorem Own.getG {h : Heap} {w : World} (o : Own h0 G m h) (hc : At c h w) {b : Nat} {B : Blk} (hm : Has G b B) : w.heap[b]? = some B.obj := by
  rw [hc.1]; exact o.has _ (List.mem_append.2 (.inr hm.mem))

theorem ro_load {x : Operand} {b o : Nat} {B : Blk} {v : Value} (hx : ev f x = .pointer (some ⟨b, o, none⟩)) (hT : oneTk (TyC.tk P T) = true) (hm : Has m b B) (hn : Nat.blt o B.n = true) (hv : B.g o = v)
    (hd : dstOk n d = true) (h : RO P G qs c n h0 ops Q rest (updo f d v) m) : RO P G qs c n h0 ops Q (⟨d, .load T x, tt, pos, aft, none⟩ :: rest) f m := by
  refine ro_read (Nat.le_refl _) rfl hd (fun _ hp w hw hc => ⟨w, hc, .inl ?_⟩) (fun h => by cases h) h
  have hn' : o < B.n := by simpa [Nat.blt_eq] using hn
  simp [execOp, hx, Instr.loadAt, Instr.sureAddr, loadVar, run_isAgg_one hT, cell_of (hw.get hc hm) hn', hv]
theorem ro_loadG {x : Operand} {b o : Nat} {B : Blk} {v : Value} (hx : ev f x = .pointer (some ⟨b, o, none⟩)) (hT : oneTk (TyC.tk P T) = true) (hm : Has G b B) (hn : Nat.blt o B.n = true) (hv : B.g o = v)
    (hd : dstOk n d = true) (h : RO P G qs c n h0 ops Q rest (updo f d v) m) : RO P G qs c n h0 ops Q (⟨d, .load T x, tt, pos, aft, none⟩ :: rest) f m := by
  refine ro_read (Nat.le_refl _) rfl hd (fun _ hp w hw hc => ⟨w, hc, .inl ?_⟩) (fun h => by cases h) h
  have hn' : o < B.n := by simpa [Nat.blt_eq] using hn
  simp [execOp, hx, Instr.loadAt, Instr.sureAddr, loadVar, run_isAgg_one hT, cell_of (hw.getG hc hm) hn', hv]
/-- .. at a place that is reckoned. -/
theorem ro_loadI {x : Operand} {b o : Nat} {B : Blk} {v : Value} (hx : ev f x = .pointer (some ⟨b, o, none⟩)) (hT : oneTk (TyC.tk P T) = true) (hm : Has m b B) (hn : o < B.n) (hv : B.g o = v)
    (hd : dstOk n d = true) (h : RO P G qs c n h0 ops Q rest (updo f d v) m) : RO P G qs c n h0 ops Q (⟨d, .load T x, tt, pos, aft, none⟩ :: rest) f m :=
  ro_load hx hT hm (by simpa [Nat.blt_eq] using hn) hv hd h
theorem ro_loadGI {x : Operand} {b o : Nat} {B : Blk} {v : Value} (hx : ev f x = .pointer (some ⟨b, o, none⟩)) (hT : oneTk (TyC.tk P T) = true) (hm : Has G b B) (hn : o < B.n) (hv : B.g o = v)
    (hd : dstOk n d = true) (h : RO P G qs c n h0 ops Q rest (updo f d v) m) : RO P G qs c n h0 ops Q (⟨d, .load T x, tt, pos, aft, none⟩ :: rest) f m :=
  ro_loadG hx hT hm (by simpa [Nat.blt_eq] using hn) hv hd h

def aggTk : TK → Bool
  | .st _ | .arr _ _ => true
  | _ => false
theorem run_isAgg_agg (h : aggTk (TyC.tk P T) = true) (w : World) : (isAgg T).run P w = .ok true w := by
  unfold isAgg
  cases hk : TyC.tk P T <;> rw [hk] at h <;> first | (cases h; done) | skip
  case arr k e => simp [run_underlying (u_arr hk)]
  case st fs => obtain ⟨fl, hf, _⟩ := u_st hk; simp [run_underlying hf]

theorem ro_loadAgg {x : Operand} {b o s : Nat} {B : Blk} (hx : ev f x = .pointer (some ⟨b, o, none⟩)) (hT : aggTk (TyC.tk P T) = true) (hs : TyC.sz P T = s + 1) (hm : Has m b B) (hn : o + (s + 1) ≤ B.n)
    (hd : dstOk n d = true) (h : RO P G qs c n h0 ops Q rest (updo f d (.agg (tabL (s + 1) fun i => B.g (o + i)).toArray)) m) : RO P G qs c n h0 ops Q (⟨d, .load T x, tt, pos, aft, none⟩ :: rest) f m := by
  refine ro_read (Nat.le_refl _) rfl hd (fun _ hp w hw hc => ⟨w, hc, .inl ?_⟩) (fun h => by cases h) h
  simp [execOp, hx, Instr.loadAt, Instr.sureAddr, loadVar, run_isAgg_agg hT, run_sizeOf hs (by omega), run_loadCells_blk (hw.get hc hm) hn]

omit ty in
theorem upon_skip_ok {a : Act} {w w' : World} {o : Oper} {K : Act → World → Prop} {Q : Exit → Act → World → Prop} (hr : (execOp a.eval o).run P w = .ok .skip w') (hK : K (a.put o.dst undef) w') : o.wp P a w K Q := by
  unfold Oper.wp; rw [hr]; exact hK
omit ty in
theorem upon_val_ok {a : Act} {w w' : World} {o : Oper} {v : Value} {K : Act → World → Prop} {Q : Exit → Act → World → Prop} (hr : (execOp a.eval o).run P w = .ok (.value v) w') (hK : K (a.put o.dst v) w') : o.wp P a w K Q := by
  unfold Oper.wp; rw [hr]; exact hK

theorem ro_store {x y : Operand} {b o : Nat} {B : Blk} {v : Value} {m' : Mem} (hx : ev f x = .pointer (some ⟨b, o, none⟩)) (hy : ev f y = v) (hT : TyC.sz P T = 1) (hv : one1 v = true)
    (hm : Put m b B (B.st o v) m') (hn : Nat.blt o B.n = true) (hf : B.fr = (0, 0))
    (hex : h0.ex = false) (h : RO P G qs c n h0 ops Q rest f m') : RO P G qs c n h0 ops Q (⟨none, .store T x y, tt, pos, aft, none⟩ :: rest) f m := by
  refine ro_eff rfl rfl rfl fun hp w hw hc a r => ?_
  have hb : w.heap[b]? = some B.obj := by rw [hc.1]; exact hw.has _ (List.mem_append.2 (.inl hm.mem))
  have hn' : o < B.n := by simpa [Nat.blt_eq] using hn
  have hcs : v.cells = #[v] := by cases v <;> first | (cases hv; done) | rfl
  refine upon_skip_ok (w' := w.setCell ⟨b, o, none⟩ v) ?_ ⟨f, m', (w.setCell ⟨b, o, none⟩ v).heap, r, hc.setCell _ _, ?_, h⟩
  · rw [r.eval]
    have := run_store_blk (P := P) hb hf hn' hv .plain
    simp [execOp, hx, hy, Instr.storeAt, Instr.sureAddr, storeVar, run_sizeOf hT (by omega), hcs, storeCells, Addr_add, this]
  · have t := setCell_turned hb o v
    rw [hc.1] at t
    exact hw.turned hex hm t
theorem ro_storeI {x y : Operand} {b o : Nat} {B : Blk} {v : Value} {m' : Mem} (hx : ev f x = .pointer (some ⟨b, o, none⟩)) (hy : ev f y = v) (hT : TyC.sz P T = 1) (hv : one1 v = true)
    (hm : Put m b B (B.st o v) m') (hn : o < B.n) (hf : B.fr = (0, 0))
    (hex : h0.ex = false) (h : RO P G qs c n h0 ops Q rest f m') : RO P G qs c n h0 ops Q (⟨none, .store T x y, tt, pos, aft, none⟩ :: rest) f m :=
  ro_store hx hy hT hv hm (by simpa [Nat.blt_eq] using hn) hf hex h

theorem ro_storeAgg {x y : Operand} {b o s : Nat} {B : Blk} {vs : List Value} {m' : Mem} (hx : ev f x = .pointer (some ⟨b, o, none⟩)) (hy : ev f y = .agg vs.toArray) (hT : TyC.sz P T = s + 1) (hl : vs.length = s + 1) (hv : ∀ v ∈ vs, one1 v = true)
    (hm : Put m b B ⟨B.n, blit B.g o (s + 1) (listG vs), B.T, B.fr⟩ m') (hn : o + (s + 1) ≤ B.n) (hf : B.fr = (0, 0))
    (hex : h0.ex = false) (h : RO P G qs c n h0 ops Q rest f m') : RO P G qs c n h0 ops Q (⟨none, .store T x y, tt, pos, aft, none⟩ :: rest) f m := by
  refine ro_eff rfl rfl rfl fun hp w hw hc a r => ?_
  have hb : w.heap[b]? = some B.obj := by rw [hc.1]; exact hw.has _ (List.mem_append.2 (.inl hm.mem))
  obtain ⟨w', hr, hc', t⟩ := run_storeCells_blk (P := P) vs 0 hb hf (o := o) (by omega) hv (c := c) ⟨rfl, hc.2⟩
  refine upon_skip_ok (w' := w') ?_ ⟨f, m', w'.heap, r, hc', ?_, h⟩
  · rw [r.eval]
    simp [execOp, hx, hy, Instr.storeAt, Instr.sureAddr, storeVar, run_sizeOf hT (by omega), Value.cells, hl, hr]
  · rw [hc.1, hl] at t
    exact hw.turned hex hm t

/-- What a new variable of a type holds. -/
def zeroL (P : Program) (T : TypeId) : Option (List Value) := (P.info? T).bind fun i => i.zero.map fun z => z.cells.toList

def listB (l : List Value) (T : TypeId) : Blk := ⟨l.length, listG l, T, (0, 0)⟩
theorem listB_obj (l : List Value) (T : TypeId) : (listB l T).obj = .cells l.toArray T := by
  unfold Blk.obj listB
  congr 1
  apply Array.ext_getElem?
  intro i
  by_cases h : i < l.length
  · rw [Blk.get _ i h]; simp [listG, h, List.getD]
  · rw [Array.getElem?_eq_none (by rw [Blk.size]; exact Nat.le_of_not_lt h)]; simp [h]

omit ty in
theorem ro_alloc {zs : List Value} (hz : zeroL P T = some zs) (hd : dstOk n d = true) (hex : h0.ex = false) (h : ∀ b, h0.h.size ≤ b → RO P G qs c n h0 ops Q rest (updo f d (.pointer (some ⟨b, 0, none⟩))) ((b, listB zs T) :: m)) :
    RO P G qs c n h0 ops Q (⟨d, .alloc T, tt, pos, aft, none⟩ :: rest) f m := by
  refine ro_effA rfl rfl hd fun hp w hw hc a r => ?_
  unfold zeroL at hz
  simp only [Option.bind_eq_some_iff, Option.map_eq_some_iff] at hz
  obtain ⟨i, hi, z, hz, rfl⟩ := hz
  have hsz := hw.size
  refine upon_val_ok (w' := { w with heap := w.heap.push (listB z.cells.toList T).obj }) (v := .pointer (some ⟨w.heap.size, 0, none⟩)) ?_
    ⟨_, _, _, r.put hd _, ⟨rfl, hc.2⟩, ?_, by rw [hc.1]; exact Ext.push hex _ _, h w.heap.size (by rw [hc.1]; exact hsz)⟩
  · rw [r.eval, listB_obj]
    simp [execOp, Instr.alloc, zeroValue, typeInfo, hi, hz, newVar, newRow]
  · rw [hc.1]; exact hw.push hex _

omit ty in
theorem ro_box {x : Operand} {v : Value} {vs : List Value} (hx : ev f x = v) (hz : v.cells.toList = vs) (hd : dstOk n d = true) (hex : h0.ex = false) (h : ∀ b, h0.h.size ≤ b → RO P G qs c n h0 ops Q rest (updo f d (.pointer (some ⟨b, 0, none⟩))) ((b, listB vs T) :: m)) :
    RO P G qs c n h0 ops Q (⟨d, .box T x, tt, pos, aft, none⟩ :: rest) f m := by
  subst hz
  refine ro_effA rfl rfl hd fun hp w hw hc a r => ?_
  have hsz := hw.size
  refine upon_val_ok (w' := { w with heap := w.heap.push (listB v.cells.toList T).obj }) (v := .pointer (some ⟨w.heap.size, 0, none⟩)) ?_
    ⟨_, _, _, r.put hd _, ⟨rfl, hc.2⟩, ?_, by rw [hc.1]; exact Ext.push hex _ _, h w.heap.size (by rw [hc.1]; exact hsz)⟩
  · rw [r.eval, listB_obj]
    simp [execOp, hx, Instr.box, newVar, newRow]
  · rw [hc.1]; exact hw.push hex _

/-! Slices -/
/-- Where a slice of a slice begins: at a length of no place the old begin is kept. -/
def sOff (o l s cap : Nat) : Nat := if cap = l then o else o + l * s
def optInt (f : Fr) (x : Option Operand) (dflt : Int) : Option Int := match x with
  | none => some dflt
  | some y => match ev f y with | .int _ i => some i | _ => none

omit ty in
theorem run_bound {k : IntKind} {i : Int} {y : Nat} {code : BoundsCode} (h0 : 0 ≤ i) (h1 : i ≤ y) (w : World) : (Instr.sliceBound (.int k i) y code).run P w = .ok i.toNat w := by
  simp [Instr.sliceBound, asIntOf, h0, h1]
omit ty in
theorem run_bounds {lo hi : Option Operand} {b : Bool} {len cap : Nat} {l h : Int} (hl : optInt f lo 0 = some l) (hh : optInt f hi len = some h) (h1 : 0 ≤ l) (h2 : l ≤ h) (h3 : h ≤ cap) (w : World) :
    (Instr.sliceBounds b len cap (lo.map (ev f)) (hi.map (ev f)) none).run P w = .ok (l.toNat, h.toNat, cap) w := by
  have hhi : (match hi.map (ev f) with | some v => Instr.sliceBound v cap (if b = true then .sliceAcap else .sliceAlen) | none => pure len : Sem Nat).run P w = .ok h.toNat w := by
    unfold optInt at hh
    cases hi with
    | none => simp at hh; subst hh; simp
    | some y =>
      simp only [Option.map_some] at hh ⊢
      cases hy : ev f y <;> rw [hy] at hh <;> first | (cases hh; done) | (simp at hh; subst hh; exact run_bound (by omega) h3 w)
  have hlo : (match lo.map (ev f) with | some v => Instr.sliceBound v h.toNat .sliceB | none => pure 0 : Sem Nat).run P w = .ok l.toNat w := by
    unfold optInt at hl
    cases lo with
    | none => simp at hl; subst hl; simp
    | some y =>
      simp only [Option.map_some] at hl ⊢
      cases hy : ev f y <;> rw [hy] at hl <;> first | (cases hl; done) | (simp at hl; subst hl; exact run_bound h1 (by omega) w)
  unfold Instr.sliceBounds
  cases hi <;> cases lo <;> simp_all

theorem ro_slice {x : Operand} {lo hi : Option Operand} {b o len cap e s : Nat} {l h : Int} (hx : ev f x = .slice (some ⟨b, o, none⟩) len cap) (hT : TyC.tk P T = .sl e) (hs : TyC.sz P e = s + 1)
    (hl : optInt f lo 0 = some l) (hh : optInt f hi len = some h) (h1 : 0 ≤ l) (h2 : l ≤ h) (h3 : h ≤ cap) (hd : dstOk n d = true)
    (hk : RO P G qs c n h0 ops Q rest (updo f d (.slice (some ⟨b, sOff o l.toNat (s + 1) cap, none⟩) (h.toNat - l.toNat) (cap - l.toNat))) m) :
    RO P G qs c n h0 ops Q (⟨d, .slice T x lo hi none, tt, pos, aft, none⟩ :: rest) f m := by
  refine ro_pure rfl rfl hd (fun w => ?_) hk
  have hb := run_bounds (P := P) (b := true) hl hh h1 h2 h3 w
  simp only [execOp, hx, Instr.sliceAt, Instr.slice, Sem.run_bind, run_underlying (u_sl hT), Result.andThen_ok, Option.map_none, hb, run_sizeOf hs (by omega), Sem.run_pure, sOff, Option.map_some, Addr_add]
  split <;> rfl
/-- .. of nothing. -/
theorem ro_sliceNil {x : Operand} {lo hi : Option Operand} {e s : Nat} (hx : ev f x = .slice none 0 0) (hT : TyC.tk P T = .sl e) (hs : TyC.sz P e = s + 1)
    (hl : optInt f lo 0 = some 0) (hh : optInt f hi 0 = some 0) (hd : dstOk n d = true)
    (hk : RO P G qs c n h0 ops Q rest (updo f d (.slice none 0 0)) m) :
    RO P G qs c n h0 ops Q (⟨d, .slice T x lo hi none, tt, pos, aft, none⟩ :: rest) f m := by
  refine ro_pure rfl rfl hd (fun w => ?_) hk
  have hb := run_bounds (P := P) (f := f) (lo := lo) (hi := hi) (b := true) (len := 0) (cap := 0) (l := 0) (h := 0) hl hh (by omega) (by omega) (by omega) w
  simp only [execOp, hx, Instr.sliceAt, Instr.slice, Sem.run_bind, run_underlying (u_sl hT), Result.andThen_ok, Option.map_none, hb, run_sizeOf hs (by omega), Sem.run_pure]
  rfl
/-- .. of an array. -/
theorem ro_sliceArr {x : Operand} {lo hi : Option Operand} {b o k e s : Nat} {l h : Int} (hx : ev f x = .pointer (some ⟨b, o, none⟩)) (hT : TyC.tk P T = .arr k e) (hs : TyC.sz P e = s + 1)
    (hl : optInt f lo 0 = some l) (hh : optInt f hi k = some h) (h1 : 0 ≤ l) (h2 : l ≤ h) (h3 : h ≤ k) (hd : dstOk n d = true)
    (hk : RO P G qs c n h0 ops Q rest (updo f d (.slice (some ⟨b, sOff o l.toNat (s + 1) k, none⟩) (h.toNat - l.toNat) (k - l.toNat))) m) :
    RO P G qs c n h0 ops Q (⟨d, .slice T x lo hi none, tt, pos, aft, none⟩ :: rest) f m := by
  refine ro_pure rfl rfl hd (fun w => ?_) hk
  have hb := run_bounds (P := P) (b := false) hl hh h1 h2 h3 w
  simp only [execOp, hx, Instr.sliceAt, Sem.run_bind, run_underlying (u_arr hT), Result.andThen_ok, Option.map_none, hb, run_sizeOf hs (by omega), Sem.run_pure, sOff, Addr_add, Instr.sureAddr]
  split <;> rfl

theorem ro_len {x : Operand} {b : Option Addr} {len cap e : Nat} {ats : Array TypeId} (hx : ev f x = .slice b len cap) (ha : ats[0]? = some T) (hT : TyC.tk P T = .sl e) (hd : dstOk n d = true)
    (hk : RO P G qs c n h0 ops Q rest (updo f d (.int .i64 len)) m) : RO P G qs c n h0 ops Q (⟨d, .call ⟨.builtin .len, #[x], ats⟩, tt, pos, aft, none⟩ :: rest) f m :=
  ro_pure rfl rfl hd (fun w => by simp [execOp, resolve, invoke, builtin, Builtin.len_, hx, ha, run_underlying (u_sl hT), goInt]) hk
theorem ro_cap {x : Operand} {b : Option Addr} {len cap e : Nat} {ats : Array TypeId} (hx : ev f x = .slice b len cap) (ha : ats[0]? = some T) (hT : TyC.tk P T = .sl e) (hd : dstOk n d = true)
    (hk : RO P G qs c n h0 ops Q rest (updo f d (.int .i64 cap)) m) : RO P G qs c n h0 ops Q (⟨d, .call ⟨.builtin .cap, #[x], ats⟩, tt, pos, aft, none⟩ :: rest) f m :=
  ro_pure rfl rfl hd (fun w => by simp [execOp, resolve, invoke, builtin, Builtin.cap_, hx, ha, run_underlying (u_sl hT), goInt]) hk
theorem ro_lenS {x : Operand} {s : ByteArray} {ats : Array TypeId} (hx : ev f x = .string s) (ha : ats[0]? = some T) (hT : TyC.tk P T = .string) (hd : dstOk n d = true)
    (hk : RO P G qs c n h0 ops Q rest (updo f d (.int .i64 s.size)) m) : RO P G qs c n h0 ops Q (⟨d, .call ⟨.builtin .len, #[x], ats⟩, tt, pos, aft, none⟩ :: rest) f m :=
  ro_pure rfl rfl hd (fun w => by simp [execOp, resolve, invoke, builtin, Builtin.len_, hx, ha, run_underlying (u_string hT), goInt]) hk
omit ty in
theorem ro_min {x y : Operand} {k k' : IntKind} {a b : Int} {ats : Array TypeId} (hx : ev f x = .int k a) (hy : ev f y = .int k' b) (hd : dstOk n d = true)
    (hk : RO P G qs c n h0 ops Q rest (updo f d (.int k (if b < a then b else a))) m) : RO P G qs c n h0 ops Q (⟨d, .call ⟨.builtin .min, #[x, y], ats⟩, tt, pos, aft, none⟩ :: rest) f m :=
  ro_pure rfl rfl hd (fun w => by simp [execOp, resolve, invoke, builtin, Builtin.min_, Builtin.min2, hx, hy]) hk
omit ty in
theorem ro_max {x y : Operand} {k k' : IntKind} {a b : Int} {ats : Array TypeId} (hx : ev f x = .int k a) (hy : ev f y = .int k' b) (hd : dstOk n d = true)
    (hk : RO P G qs c n h0 ops Q rest (updo f d (.int k (if b > a then b else a))) m) : RO P G qs c n h0 ops Q (⟨d, .call ⟨.builtin .max, #[x, y], ats⟩, tt, pos, aft, none⟩ :: rest) f m :=
  ro_pure rfl rfl hd (fun w => by simp [execOp, resolve, invoke, builtin, Builtin.max_, Builtin.max2, hx, hy]) hk

/-! Calls of functions -/
omit ty in
theorem Own.call {h h' : Heap} {pre m' fm : Mem} (hex : h0.ex = false) (o : Own h0 G (pre ++ fm) h) (o' : Own ⟨h, pre.keys, false⟩ G m' h') : Own h0 G (m' ++ fm) h' := by
  have hnd := o.nodup
  simp only [List.map_append, List.nodup_append, List.mem_append, List.mem_map] at hnd
  have hnd' := o'.nodup
  simp only [List.map_append, List.nodup_append, List.mem_map] at hnd'
  have hpre : ∀ q ∈ fm, q.1 ∉ pre.keys := by
    intro q hq hk
    obtain ⟨r, hr, he⟩ := List.mem_map.1 hk
    exact hnd.1.2.2 r.1 ⟨r, hr, rfl⟩ q.1 ⟨q, hq, rfl⟩ he
  have hfm : ∀ q ∈ fm, ∀ p ∈ m', p.1 ≠ q.1 := by
    intro q hq p hp e
    rcases o'.known p hp with hk | hlt
    · exact hpre q hq (e ▸ hk)
    · have := o.lt (p := q) (by simp [hq]); simp only at hlt; omega
  refine ⟨Nat.le_trans o.size o'.size, ?_, ?_, ?_, ?_, fun e => by rw [hex] at e; cases e⟩
  · intro q hq
    simp only [List.mem_append] at hq
    rcases hq with (hq | hq) | hq
    · exact o'.has q (by simp [hq])
    · have hlt := o.lt (p := q) (by simp [hq])
      have := o'.old q.1 hlt (hpre q hq)
      simp only at this
      rw [this]
      exact o.has q (by simp [hq])
    · exact o'.has q (by simp [hq])
  · simp only [List.map_append, List.nodup_append, List.mem_append, List.mem_map]
    refine ⟨⟨hnd'.1, hnd.1.2.1, ?_⟩, hnd'.2.1, ?_⟩
    · rintro _ ⟨p, hp, rfl⟩ _ ⟨q, hq, rfl⟩
      exact hfm q hq p hp
    · rintro _ (⟨p, hp, rfl⟩ | ⟨p, hp, rfl⟩) _ ⟨q, hq, rfl⟩
      · exact hnd'.2.2 _ ⟨p, hp, rfl⟩ _ ⟨q, hq, rfl⟩
      · exact hnd.2.2 _ (.inr ⟨p, hp, rfl⟩) _ ⟨q, hq, rfl⟩
  · intro p hp
    rcases List.mem_append.1 hp with hp | hp
    · rcases o'.known p hp with hk | hlt
      · obtain ⟨r, hr, he⟩ := List.mem_map.1 hk
        rw [← he]; exact o.known r (by simp [hr])
      · exact .inr (Nat.le_trans o.size hlt)
    · exact o.known p (by simp [hp])
  · intro b hb hn
    have hb' : b < h.size := Nat.lt_of_lt_of_le hb o.size
    have hk : b ∉ pre.keys := by
      intro hk
      obtain ⟨r, hr, he⟩ := List.mem_map.1 hk
      rcases o.known r (by simp [hr]) with h1 | h1
      · exact hn (he ▸ h1)
      · omega
    have := o'.old b hb' hk
    simp only at this
    rw [this]
    exact o.old b hb hn

omit ty in
/-- A call, by what it does to some blocks. -/
theorem ro_callGen {o : Oper} {fid : FuncId} {vs : Array Value} {pre fm : Mem} {R : Value → Mem → Prop} (hcl : cls qs o.op = 2) (hg : o.guard = none) (hd : dstOk n o.dst = true)
    (hr : ∀ w, (execOp (ev f) o).run P w = .ok (.enter fid vs) w) (ht : Trip P G fid vs pre R) (hs : Sel m pre fm)
    (hex : h0.ex = false) (hk : ∀ v m', R v m' → RO P G qs c n h0 ops Q rest (updo f o.dst v) (m' ++ fm)) : RO P G qs c n h0 ops Q (o :: rest) f m := by
  refine ro_eff hcl hg hd fun hp w hw hc a r => ?_
  have o1 := hw.perm hs.perm
  unfold Oper.wp
  rw [r.eval, hr w]
  refine (ht c hp w hc o1.startSub).mono ?_
  rintro e w' ⟨v, m', h', rfl, hc', o', hR⟩
  exact ⟨_, _, h', r.put hd v, hc', o1.call hex o', hk v m' hR⟩

theorem run_call {x : Operand} {xs : Array Operand} {ats : Array TypeId} {fid : FuncId} {first captured vs : Array Value} (hf : ev f x = .func (.func fid) first captured) (hx : xs.map (ev f) = vs) (hgo : TyC.go P fid = true) (w : World) :
    (execOp (ev f) ⟨d, .call ⟨.value x, xs, ats⟩, tt, pos, aft, none⟩).run P w = .ok (.enter fid (first ++ vs ++ captured)) w := by
  simp [execOp, resolve, Deferred.ofValue, hf, hx, invoke, run_callFunc hgo]

/-- A call of a named function. -/
theorem ro_call {xs : Array Operand} {ats : Array TypeId} {fid : FuncId} {vs : Array Value} {pre fm : Mem} {R : Value → Mem → Prop} (hq : qs.contains fid = false) (hgo : TyC.go P fid = true) (hx : xs.map (ev f) = vs) (hd : dstOk n d = true)
    (ht : Trip P G fid vs pre R) (hs : Sel m pre fm)
    (hex : h0.ex = false) (hk : ∀ v m', R v m' → RO P G qs c n h0 ops Q rest (updo f d v) (m' ++ fm)) :
    RO P G qs c n h0 ops Q (⟨d, .call ⟨.value (.func fid), xs, ats⟩, tt, pos, aft, none⟩ :: rest) f m :=
  ro_callGen (by unfold cls; simp only [hq]; rfl) rfl hd (fun w => by rw [run_call (f := f) (fid := fid) (first := #[]) (captured := #[]) rfl hx hgo]; simp) ht hs hex hk
/-- A call of a function value. -/
theorem ro_callV {t : Nat} {xs : Array Operand} {ats : Array TypeId} {fid : FuncId} {first captured vs : Array Value} {pre fm : Mem} {R : Value → Mem → Prop} (hf : f t = .func (.func fid) first captured) (hgo : TyC.go P fid = true) (hx : xs.map (ev f) = vs) (hd : dstOk n d = true)
    (ht : Trip P G fid (first ++ vs ++ captured) pre R) (hs : Sel m pre fm)
    (hex : h0.ex = false) (hk : ∀ v m', R v m' → RO P G qs c n h0 ops Q rest (updo f d v) (m' ++ fm)) :
    RO P G qs c n h0 ops Q (⟨d, .call ⟨.value (.tmp t), xs, ats⟩, tt, pos, aft, none⟩ :: rest) f m :=
  ro_callGen rfl rfl hd (fun w => run_call (f := f) (x := .tmp t) (fid := fid) hf hx hgo w) ht hs hex hk
omit ty in
/-- A call through an interface value. -/
theorem ro_invoke {x : Operand} {mt : String} {xs : Array Operand} {ats : Array TypeId} {fid : FuncId} {rv : Value} {us vs : Array Value} {pre fm : Mem} {R : Value → Mem → Prop} (hf : ev f x = rv) (hx : xs.map (ev f) = us) (hd : dstOk n d = true)
    (hr : ∀ w, (callMethod rv mt us).run P w = .ok (.enter fid vs) w)
    (ht : Trip P G fid vs pre R) (hs : Sel m pre fm)
    (hex : h0.ex = false) (hk : ∀ v m', R v m' → RO P G qs c n h0 ops Q rest (updo f d v) (m' ++ fm)) :
    RO P G qs c n h0 ops Q (⟨d, .call ⟨.invoke x mt, xs, ats⟩, tt, pos, aft, none⟩ :: rest) f m := by
  refine ro_callGen rfl rfl hd (fun w => ?_) ht hs hex hk
  have h2 : (#[rv] ++ us).extract 1 (#[rv] ++ us).size = us := by
    apply Array.ext_getElem?; intro i; simp
  have h3 : (#[rv] ++ us)[0]? = some rv := by simp [Array.getElem?_append]
  simp only [execOp, resolve, hf, hx, Sem.run_bind, Sem.run_pure, Result.andThen_ok, invoke, h2, h3]
  exact hr w

end
end Go.Eng

/-! AN ENGINE OF WALKS, PART 6: append, copy, clear, make; slices written out. -/
namespace Go.Eng
open Go

def isSl : TK → Bool
  | .sl _ => true
  | _ => false
/-- What is handed to append or copy: k elements, whose cells are src's. -/
def Src (M : Mem) (s : Nat) (x : Value) (k : Nat) (src : Nat → Value) : Prop :=
  (∃ b o cp B, x = .slice (some ⟨b, o, none⟩) k cp ∧ (b, B) ∈ M ∧ o + k * s ≤ B.n ∧ src = fun j => B.g (o + j)) ∨ (k = 0 ∧ ∃ oa cp, x = .slice oa 0 cp)

theorem growBy_le (newLen : Nat) : ∀ (r c : Nat), Builtin.growBy newLen r c ≤ max c (2 * newLen + 768)
  | 0, c => by simp [Builtin.growBy]; omega
  | r + 1, c => by
    unfold Builtin.growBy
    split
    · omega
    · have := growBy_le newLen r (c + (c + 768) / 4)
      omega
theorem nextslicecap_le (newLen old : Nat) (h : old < newLen) : Builtin.nextslicecap newLen old ≤ 2 * newLen + 768 := by
  unfold Builtin.nextslicecap
  split
  · omega
  · split
    · omega
    · have := growBy_le newLen 4 old
      omega

section
variable {P : Program} [ty : TyC P] {G : Mem} {qs : List FuncId} {c : World} {n : Nat} {h0 : Base} {ops : Array Oper} {Q : Fr → Mem → Prop} {rest : List Oper} {f : Fr} {m : Mem}
variable {d : Option Tmp} {T T' tt : TypeId} {pos : String} {aft : Array Edge}

omit ty in
theorem Src.run {w : World} {M : Mem} {s k : Nat} {x : Value} {src : Nat → Value} (hs : Src M s x k src) (hM : ∀ p ∈ M, w.heap[p.1]? = some p.2.obj) :
    (Builtin.lenOf x).run P w = .ok k w ∧ ∀ j, j ≤ k → (Builtin.firstCells s j x).run P w = .ok (tabL (j * s) src).toArray w := by
  rcases hs with ⟨b, o, cp, B, rfl, hm, ho, rfl⟩ | ⟨rfl, oa, cp, rfl⟩
  · refine ⟨by simp [Builtin.lenOf], fun j hj => ?_⟩
    have : j * s ≤ k * s := Nat.mul_le_mul_right _ hj
    simp only [Builtin.firstCells]
    exact run_loadCells_blk (B := B) (hM _ hm) (by omega)
  · refine ⟨by simp [Builtin.lenOf], fun j hj => ?_⟩
    have : j = 0 := by omega
    subst this
    cases oa <;> simp [Builtin.firstCells, tabL, loadCells, loadCellsFrom]

/-- The zeros behind what has been appended. -/
def zerosG (zs : List Value) : Nat → Value := fun i => zs.getD (i % zs.length) undef

theorem zeroCells_get (zs : List Value) (k : Nat) (i : Nat) (h : i < k * zs.length) : (Builtin.zeroCells zs.toArray k)[i]? = some (zerosG zs i) := by
  have h0 : 0 < zs.length := Nat.pos_of_ne_zero fun e => by rw [e] at h; omega
  have hm := Nat.mod_lt i h0
  simp [Builtin.zeroCells, h, zerosG, List.getD, hm]
theorem zeroCells_size (zs : List Value) (k : Nat) : (Builtin.zeroCells zs.toArray k).size = k * zs.length := by simp [Builtin.zeroCells]

def baseA : Option (Nat × Nat × Blk) → Option Addr
  | none => none
  | some (b, o, _) => some ⟨b, o, none⟩
def baseG : Option (Nat × Nat × Blk) → Nat → Value
  | none => fun _ => undef
  | some (_, o, B) => fun j => B.g (o + j)

def BaseIn (h : Heap) (s len cap k : Nat) (src : Nat → Value) : Option (Nat × Nat × Blk) → Prop
  | none => len = 0 ∧ cap = 0
  | some (b, o, B) => h[b]? = some B.obj ∧ B.fr = (0, 0) ∧ o + cap * (s + 1) ≤ B.n ∧ len ≤ cap ∧ (∀ j, j < k * (s + 1) → one1 (src j) = true)
def BaseOut (h h' : Heap) (s len k : Nat) (src : Nat → Value) : Option (Nat × Nat × Blk) → Prop
  | none => h' = h
  | some (b, o, B) => Turned h b ⟨B.n, blit B.g (o + len * (s + 1)) (k * (s + 1)) src, B.T, B.fr⟩ h'

/-- What append comes to, with room and without. -/
theorem run_append {w : World} {x y : Value} {ats : Array TypeId} {e s len cap k : Nat} {base : Option (Nat × Nat × Blk)} {M : Mem} {src : Nat → Value} {zs : List Value} (hT : ats[0]? = some T) (hTe : TyC.tk P T = .sl e) (hs : TyC.sz P e = s + 1)
    (hz : zeroL P e = some zs) (hby : TyC.by_ P e ≤ 64) (hT1 : ∃ T1, ats[1]? = some T1 ∧ isSl (TyC.tk P T1) = true)
    (hx : x = .slice (baseA base) len cap) (hsrc : Src M (s + 1) y k src) (hM : ∀ p ∈ M, w.heap[p.1]? = some p.2.obj) (hk : len + k ≤ 2 ^ 40) (hc : At c w.heap w)
    (ha : BaseIn w.heap s len cap k src base) :
    ∃ v w', (Builtin.append_ ats tt #[x, y]).run P w = .ok v w' ∧ At c w'.heap w' ∧
      ((len + k ≤ cap ∧ v = .slice (baseA base) (len + k) cap ∧ BaseOut w.heap w'.heap s len k src base) ∨
       (cap < len + k ∧ ∃ cap', len + k ≤ cap' ∧ v = .slice (some ⟨w.heap.size, 0, none⟩) (len + k) cap' ∧
          ∃ B : Blk, w'.heap = w.heap.push B.obj ∧ B.fr = (0, 0) ∧ B.n = cap' * (s + 1) ∧
            (∀ i, i < len * (s + 1) → B.g i = baseG base i) ∧ (∀ i, i < k * (s + 1) → B.g (len * (s + 1) + i) = src i) ∧ (∀ i, (len + k) * (s + 1) ≤ i → i < cap' * (s + 1) → B.g i = zerosG zs (i - (len + k) * (s + 1))))) := by
  subst hx
  obtain ⟨T1, hT1, hk1⟩ := hT1
  obtain ⟨hlen, hcells⟩ := hsrc.run (P := P) hM
  have hnew := hcells k (Nat.le_refl _)
  have hu1 : ∃ e1, P.underlying T1 = some (.slice e1) := by
    cases hk2 : TyC.tk P T1 <;> rw [hk2] at hk1 <;> first | (cases hk1; done) | skip
    exact ⟨_, u_sl hk2⟩
  obtain ⟨e1, hu1⟩ := hu1
  obtain ⟨i, z, hi, his, hib, hiz, hzs⟩ := info_of hs (by omega)
  have hzz : z.cells = zs.toArray := by
    unfold zeroL at hz
    rw [hi] at hz
    simp [hiz] at hz
    rw [← hz]
  have hzl : zs.length = s + 1 := by rw [← hzs, hzz]; simp
  by_cases hroom : len + k ≤ cap
  · -- room
    rcases base with _ | ⟨b, o, B⟩
    · obtain ⟨rfl, rfl⟩ := ha
      obtain rfl : k = 0 := by omega
      refine ⟨_, w, ?_, hc, .inl ⟨hroom, rfl, rfl⟩⟩
      simp [Builtin.append_, baseA, hT, hT1, run_underlying (u_sl hTe), run_underlying hu1, run_sizeOf hs (by omega), hlen, hnew]
    · obtain ⟨hb, hf, ho, hlc, hone⟩ := ha
      have hmul : len * (s + 1) + k * (s + 1) ≤ cap * (s + 1) := by rw [← Nat.add_mul]; exact Nat.mul_le_mul_right _ hroom
      obtain ⟨w', hr, hc', t⟩ := run_storeCells_blk (P := P) (tabL (k * (s + 1)) src) 0 (o := o + len * (s + 1)) hb hf (by rw [tabL_length]; omega) (fun v hv => by
        obtain ⟨j, hj⟩ := List.mem_iff_getElem?.1 hv
        have hjl : j < k * (s + 1) := by
          have := (List.getElem?_eq_some_iff.1 hj).1; rwa [tabL_length] at this
        rw [tabL_get _ _ _ hjl] at hj
        cases hj
        exact hone j hjl) hc
      refine ⟨_, w', ?_, hc', .inl ⟨hroom, rfl, ?_⟩⟩
      · simp [Builtin.append_, baseA, hT, hT1, run_underlying (u_sl hTe), run_underlying hu1, run_sizeOf hs (by omega), hlen, hroom, hnew, Addr_add, hr]
      · refine t.congr ?_
        unfold Blk.obj
        congr 1
        apply Blk.cells_congr
        intro j hj
        rw [tabL_length]
        change blit B.g (o + len * (s + 1) + 0) (k * (s + 1)) (listG (tabL (k * (s + 1)) src)) j = blit B.g (o + len * (s + 1)) (k * (s + 1)) src j
        by_cases h1 : o + len * (s + 1) ≤ j ∧ j < o + len * (s + 1) + k * (s + 1)
        · rw [blit_in _ _ _ _ _ (by omega) (by omega), blit_in _ _ _ _ _ (by omega) (by omega), listG_tabL _ _ _ (by omega)]
          rfl
        · rw [blit_out _ _ _ _ _ (by omega), blit_out _ _ _ _ _ (by omega)]
  · -- no room
    have hn1 : ¬ ((((len + k : Nat)) : Int) > IntKind.i64.max ∧ (False ∨ i.bytes = 0)) := by
      intro hh
      have : IntKind.i64.max = 9223372036854775807 := by rfl
      rw [this] at hh
      omega
    have hn2 : ¬ (Builtin.nextslicecap (len + k) cap * i.bytes > 2 ^ 48) := by
      have h1 := nextslicecap_le (len + k) cap (by omega)
      have h2 : Builtin.nextslicecap (len + k) cap * i.bytes ≤ (2 * (len + k) + 768) * 64 := Nat.mul_le_mul h1 (by rw [hib]; exact hby)
      omega
    let q : Question := .appendCap (len + k) cap e
    let cap' := q.cut (w.tape w.drawn q)
    have hcap' : len + k ≤ cap' := Nat.le_add_right _ _
    let cells : Array Value := (tabL (len * (s + 1)) (baseG base)).toArray ++ (tabL (k * (s + 1)) src).toArray ++ Builtin.zeroCells zs.toArray (cap' - (len + k))
    have hsz : cells.size = cap' * (s + 1) := by
      simp only [cells, Array.size_append, List.size_toArray, tabL_length, zeroCells_size, hzl]
      rw [← Nat.add_mul, ← Nat.add_mul]
      congr 1; omega
    have hm1 : (cap' - (len + k)) * (s + 1) = cap' * (s + 1) - (len + k) * (s + 1) := Nat.mul_sub_right_distrib _ _ _
    have hm2 : (len + k) * (s + 1) = len * (s + 1) + k * (s + 1) := Nat.add_mul _ _ _
    let B : Blk := ⟨cap' * (s + 1), fun i => cells.getD i undef, e, (0, 0)⟩
    have hB : B.obj = .cells cells e := by
      unfold Blk.obj
      congr 1
      apply Array.ext_getElem?
      intro j
      by_cases hj : j < cap' * (s + 1)
      · rw [Blk.get B j hj]
        have hj' : j < cells.size := by rw [hsz]; exact hj
        simp [B, hj']
      · rw [Array.getElem?_eq_none (by rw [Blk.size]; exact Nat.le_of_not_lt hj), Array.getElem?_eq_none (by rw [hsz]; exact Nat.le_of_not_lt hj)]
    refine ⟨.slice (some ⟨w.heap.size, 0, none⟩) (len + k) cap', { w with drawn := w.drawn + 1, heap := w.heap.push B.obj }, ?_, ⟨rfl, hc.2⟩, .inr ⟨by omega, cap', hcap', rfl, B, rfl, rfl, rfl, ?_, ?_, ?_⟩⟩
    · rw [hB]
      have hfo : q.forced = false := rfl
      have hinfo : (typeInfo e).run P w = .ok i w := by simp [typeInfo, hi]
      have hinfo2 : ∀ w', (typeInfo e).run P w' = .ok i w' := fun w' => by simp [typeInfo, hi]
      have hzv : ∀ w', (zeroValue e).run P w' = .ok z w' := fun w' => by simp [zeroValue, typeInfo, hi, hiz]
      have hold' : ∀ w', w'.heap = w.heap → (Builtin.firstCells (s + 1) len (.slice (baseA base) len cap)).run P w' = .ok (tabL (len * (s + 1)) (baseG base)).toArray w' := by
        intro w' hw'
        rcases base with _ | ⟨b, o, B⟩
        · obtain ⟨rfl, rfl⟩ := ha
          simp [Builtin.firstCells, tabL, baseA]
        · obtain ⟨hb, hf, ho, hlc, hone⟩ := ha
          simp only [Builtin.firstCells, baseA]
          have : len * (s + 1) ≤ cap * (s + 1) := Nat.mul_le_mul_right _ hlc
          exact run_loadCells_blk (by rw [hw']; exact hb) (by omega)
      have hnew' : ∀ w', w'.heap = w.heap → (Builtin.firstCells (s + 1) k y).run P w' = .ok (tabL (k * (s + 1)) src).toArray w' := fun w' hw' =>
        (hsrc.run (P := P) (w := w') (by rw [hw']; exact hM)).2 k (Nat.le_refl _)
      have hask : ∀ w' b', (askRoom b').run P w' = .ok () w' := fun w' b' => by unfold askRoom; split <;> simp
      have hch : (choose q).run P w = .ok cap' { w with drawn := w.drawn + 1 } := by
        simp [choose, Sem.run, hfo, cap']
      simp only [Builtin.append_, List.getElem?_toArray, List.getElem?_cons_zero, List.getElem?_cons_succ, hT, hT1, Sem.run_bind, run_underlying (u_sl hTe), run_underlying hu1, run_sizeOf hs (by omega), Result.andThen_ok, Sem.run_pure, hlen, Bool.false_eq_true, if_false, if_neg hroom, hinfo, false_or, not_false_eq_true, Bool.not_false, if_true]
      have hn1' : ¬ ((((len + k : Nat)) : Int) > IntKind.i64.max ∧ i.bytes = 0) := fun hh => hn1 ⟨hh.1, .inr hh.2⟩
      simp only [hn1', if_false, Sem.run_bind, hinfo, Result.andThen_ok, hn2]
      rw [show Question.appendCap (len + k) cap e = q from rfl, hch]
      simp only [Result.andThen_ok, hinfo2, hask, hold' { w with drawn := w.drawn + 1 } rfl, hnew' { w with drawn := w.drawn + 1 } rfl, hzv, hzz, newRow, Sem.run_bind, run_newObj, Sem.run_pure]
      rfl
    · intro j hj
      simp only [B, cells, Array.getD_eq_getD_getElem?]
      rw [Array.getElem?_append_left (by simp only [Array.size_append, List.size_toArray, tabL_length]; omega), Array.getElem?_append_left (by simp only [List.size_toArray, tabL_length]; exact hj)]
      simp [tabL_get _ _ _ hj]
    · intro j hj
      simp only [B, cells, Array.getD_eq_getD_getElem?]
      rw [Array.getElem?_append_left (by simp only [Array.size_append, List.size_toArray, tabL_length]; omega), Array.getElem?_append_right (by simp only [List.size_toArray, tabL_length]; omega)]
      simp [tabL_length, tabL_get _ _ _ hj]
    · intro j hj1 hj2
      have hsz2 : ((tabL (len * (s + 1)) (baseG base)).toArray ++ (tabL (k * (s + 1)) src).toArray).size = (len + k) * (s + 1) := by simp [tabL_length, hm2]
      simp only [B, cells, Array.getD_eq_getD_getElem?]
      rw [Array.getElem?_append_right (by rw [hsz2]; exact hj1), hsz2, zeroCells_get _ _ _ (by rw [hzl, hm1]; omega)]
      rfl

end
end Go.Eng
