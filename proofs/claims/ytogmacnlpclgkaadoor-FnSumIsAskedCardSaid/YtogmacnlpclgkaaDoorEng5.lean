/-
  AN ENGINE OF WALKS, PART 5: THE OPERATIONS THAT READ AND WRITE MEMORY; CALLS.
-/
import Derived.Test.YtogmacnlpclgkaaDoorEng4
namespace Go.Eng
open Go

section
variable {P : Program} [ty : TyC P] {G : Mem} {qs : List FuncId} {c : World} {n : Nat} {h0 : Base} {ops : Array Oper} {Q : Fr → Mem → Prop} {rest : List Oper} {f : Fr} {m : Mem}
variable {d : Option Tmp} {T T' tt : TypeId} {pos : String} {aft : Array Edge}

omit ty in
theorem Own.get {h : Heap} {w : World} (o : Own h0 G m h) (hc : At c h w) {b : Nat} {B : Blk} (hm : Has m b B) : w.heap[b]? = some B.obj := by
  rw [hc.1]; exact o.has _ (List.mem_append.2 (.inl hm.mem))
omit ty in
theorem Own.getG {h : Heap} {w : World} (o : Own h0 G m h) (hc : At c h w) {b : Nat} {B : Blk} (hm : Has G b B) : w.heap[b]? = some B.obj := by
  rw [hc.1]; exact o.has _ (List.mem_append.2 (.inr hm.mem))

theorem ro_load {x : Operand} {b o : Nat} {B : Blk} {v : Value} (hx : ev f x = .pointer (some ⟨b, o, none⟩)) (hT : oneTk (TyC.tk P T) = true) (hm : Has m b B) (hn : Nat.blt o B.n = true) (hv : B.g o = v)
    (hd : dstOk n d = true) (h : RO P G qs c n h0 ops Q rest (updo f d v) m) : RO P G qs c n h0 ops Q (⟨d, .load T x, tt, pos, aft, none⟩ :: rest) f m := by
  refine ro_read (Nat.le_refl _) rfl hd (fun _ hp w hw hc => ⟨w, hc, .inl ?_⟩) (fun h => by cases h) h
  have hn' : o < B.n := by simpa [Nat.blt_eq] using hn
  simp [execOp, hx, Instr.loadAt, Instr.sureAddr, loadVar, run_isAgg_one hT, cell_of (hw.get hc hm) hn', hv]
theorem ro_loadG {x : Operand} {b o : Nat} {B : Blk} {v : Value} (hx : ev f x = .pointer (some ⟨b, o, none⟩)) (hT : oneTk (TyC.tk P T) = true) (hm : Has G b B) (hn : Nat.blt o B.n = true) (hv : B.g o = v)
    (hd : dstOk n d = true) (h : RO P G qs c n h0 ops Q rest (updo f d v) m) : RO P G qs c n h0 ops Q (⟨d, .load T x, tt, pos, aft, none⟩ :: rest) f m := by
  refine ro_read (Nat.le_refl _) rfl hd (fun _ hp w hw hc => ⟨w, hc, .inl ?_⟩) (fun h => by cases h) h
  have hn' : o < B.n := by simpa [Nat.blt_eq] using hn
  simp [execOp, hx, Instr.loadAt, Instr.sureAddr, loadVar, run_isAgg_one hT, cell_of (hw.getG hc hm) hn', hv]
/-- .. at a place that is reckoned. -/
theorem ro_loadI {x : Operand} {b o : Nat} {B : Blk} {v : Value} (hx : ev f x = .pointer (some ⟨b, o, none⟩)) (hT : oneTk (TyC.tk P T) = true) (hm : Has m b B) (hn : o < B.n) (hv : B.g o = v)
    (hd : dstOk n d = true) (h : RO P G qs c n h0 ops Q rest (updo f d v) m) : RO P G qs c n h0 ops Q (⟨d, .load T x, tt, pos, aft, none⟩ :: rest) f m :=
  ro_load hx hT hm (by simpa [Nat.blt_eq] using hn) hv hd h
theorem ro_loadGI {x : Operand} {b o : Nat} {B : Blk} {v : Value} (hx : ev f x = .pointer (some ⟨b, o, none⟩)) (hT : oneTk (TyC.tk P T) = true) (hm : Has G b B) (hn : o < B.n) (hv : B.g o = v)
    (hd : dstOk n d = true) (h : RO P G qs c n h0 ops Q rest (updo f d v) m) : RO P G qs c n h0 ops Q (⟨d, .load T x, tt, pos, aft, none⟩ :: rest) f m :=
  ro_loadG hx hT hm (by simpa [Nat.blt_eq] using hn) hv hd h

def aggTk : TK → Bool
  | .st _ | .arr _ _ => true
  | _ => false
theorem run_isAgg_agg (h : aggTk (TyC.tk P T) = true) (w : World) : (isAgg T).run P w = .ok true w := by
  unfold isAgg
  cases hk : TyC.tk P T <;> rw [hk] at h <;> first | (cases h; done) | skip
  case arr k e => simp [run_underlying (u_arr hk)]
  case st fs => obtain ⟨fl, hf, _⟩ := u_st hk; simp [run_underlying hf]

theorem ro_loadAgg {x : Operand} {b o s : Nat} {B : Blk} (hx : ev f x = .pointer (some ⟨b, o, none⟩)) (hT : aggTk (TyC.tk P T) = true) (hs : TyC.sz P T = s + 1) (hm : Has m b B) (hn : o + (s + 1) ≤ B.n)
    (hd : dstOk n d = true) (h : RO P G qs c n h0 ops Q rest (updo f d (.agg (tabL (s + 1) fun i => B.g (o + i)).toArray)) m) : RO P G qs c n h0 ops Q (⟨d, .load T x, tt, pos, aft, none⟩ :: rest) f m := by
  refine ro_read (Nat.le_refl _) rfl hd (fun _ hp w hw hc => ⟨w, hc, .inl ?_⟩) (fun h => by cases h) h
  simp [execOp, hx, Instr.loadAt, Instr.sureAddr, loadVar, run_isAgg_agg hT, run_sizeOf hs (by omega), run_loadCells_blk (hw.get hc hm) hn]

omit ty in
theorem upon_skip_ok {a : Act} {w w' : World} {o : Oper} {K : Act → World → Prop} {Q : Exit → Act → World → Prop} (hr : (execOp a.eval o).run P w = .ok .skip w') (hK : K (a.put o.dst undef) w') : o.wp P a w K Q := by
  unfold Oper.wp; rw [hr]; exact hK
omit ty in
theorem upon_val_ok {a : Act} {w w' : World} {o : Oper} {v : Value} {K : Act → World → Prop} {Q : Exit → Act → World → Prop} (hr : (execOp a.eval o).run P w = .ok (.value v) w') (hK : K (a.put o.dst v) w') : o.wp P a w K Q := by
  unfold Oper.wp; rw [hr]; exact hK

theorem ro_store {x y : Operand} {b o : Nat} {B : Blk} {v : Value} {m' : Mem} (hx : ev f x = .pointer (some ⟨b, o, none⟩)) (hy : ev f y = v) (hT : TyC.sz P T = 1) (hv : one1 v = true)
    (hm : Put m b B (B.st o v) m') (hn : Nat.blt o B.n = true) (hf : B.fr = (0, 0))
    (hex : h0.ex = false) (h : RO P G qs c n h0 ops Q rest f m') : RO P G qs c n h0 ops Q (⟨none, .store T x y, tt, pos, aft, none⟩ :: rest) f m := by
  refine ro_eff rfl rfl rfl fun hp w hw hc a r => ?_
  have hb : w.heap[b]? = some B.obj := by rw [hc.1]; exact hw.has _ (List.mem_append.2 (.inl hm.mem))
  have hn' : o < B.n := by simpa [Nat.blt_eq] using hn
  have hcs : v.cells = #[v] := by cases v <;> first | (cases hv; done) | rfl
  refine upon_skip_ok (w' := w.setCell ⟨b, o, none⟩ v) ?_ ⟨f, m', (w.setCell ⟨b, o, none⟩ v).heap, r, hc.setCell _ _, ?_, h⟩
  · rw [r.eval]
    have := run_store_blk (P := P) hb hf hn' hv .plain
    simp [execOp, hx, hy, Instr.storeAt, Instr.sureAddr, storeVar, run_sizeOf hT (by omega), hcs, storeCells, Addr_add, this]
  · have t := setCell_turned hb o v
    rw [hc.1] at t
    exact hw.turned hex hm t
theorem ro_storeI {x y : Operand} {b o : Nat} {B : Blk} {v : Value} {m' : Mem} (hx : ev f x = .pointer (some ⟨b, o, none⟩)) (hy : ev f y = v) (hT : TyC.sz P T = 1) (hv : one1 v = true)
    (hm : Put m b B (B.st o v) m') (hn : o < B.n) (hf : B.fr = (0, 0))
    (hex : h0.ex = false) (h : RO P G qs c n h0 ops Q rest f m') : RO P G qs c n h0 ops Q (⟨none, .store T x y, tt, pos, aft, none⟩ :: rest) f m :=
  ro_store hx hy hT hv hm (by simpa [Nat.blt_eq] using hn) hf hex h

theorem ro_storeAgg {x y : Operand} {b o s : Nat} {B : Blk} {vs : List Value} {m' : Mem} (hx : ev f x = .pointer (some ⟨b, o, none⟩)) (hy : ev f y = .agg vs.toArray) (hT : TyC.sz P T = s + 1) (hl : vs.length = s + 1) (hv : ∀ v ∈ vs, one1 v = true)
    (hm : Put m b B ⟨B.n, blit B.g o (s + 1) (listG vs), B.T, B.fr⟩ m') (hn : o + (s + 1) ≤ B.n) (hf : B.fr = (0, 0))
    (hex : h0.ex = false) (h : RO P G qs c n h0 ops Q rest f m') : RO P G qs c n h0 ops Q (⟨none, .store T x y, tt, pos, aft, none⟩ :: rest) f m := by
  refine ro_eff rfl rfl rfl fun hp w hw hc a r => ?_
  have hb : w.heap[b]? = some B.obj := by rw [hc.1]; exact hw.has _ (List.mem_append.2 (.inl hm.mem))
  obtain ⟨w', hr, hc', t⟩ := run_storeCells_blk (P := P) vs 0 hb hf (o := o) (by omega) hv (c := c) ⟨rfl, hc.2⟩
  refine upon_skip_ok (w' := w') ?_ ⟨f, m', w'.heap, r, hc', ?_, h⟩
  · rw [r.eval]
    simp [execOp, hx, hy, Instr.storeAt, Instr.sureAddr, storeVar, run_sizeOf hT (by omega), Value.cells, hl, hr]
  · rw [hc.1, hl] at t
    exact hw.turned hex hm t

/-- What a new variable of a type holds. -/
def zeroL (P : Program) (T : TypeId) : Option (List Value) := (P.info? T).bind fun i => i.zero.map fun z => z.cells.toList

def listB (l : List Value) (T : TypeId) : Blk := ⟨l.length, listG l, T, (0, 0)⟩
theorem listB_obj (l : List Value) (T : TypeId) : (listB l T).obj = .cells l.toArray T := by
  unfold Blk.obj listB
  congr 1
  apply Array.ext_getElem?
  intro i
  by_cases h : i < l.length
  · rw [Blk.get _ i h]; simp [listG, h, List.getD]
  · rw [Array.getElem?_eq_none (by rw [Blk.size]; exact Nat.le_of_not_lt h)]; simp [h]

omit ty in
theorem ro_alloc {zs : List Value} (hz : zeroL P T = some zs) (hd : dstOk n d = true) (hex : h0.ex = false) (h : ∀ b, h0.h.size ≤ b → RO P G qs c n h0 ops Q rest (updo f d (.pointer (some ⟨b, 0, none⟩))) ((b, listB zs T) :: m)) :
    RO P G qs c n h0 ops Q (⟨d, .alloc T, tt, pos, aft, none⟩ :: rest) f m := by
  refine ro_effA rfl rfl hd fun hp w hw hc a r => ?_
  unfold zeroL at hz
  simp only [Option.bind_eq_some_iff, Option.map_eq_some_iff] at hz
  obtain ⟨i, hi, z, hz, rfl⟩ := hz
  have hsz := hw.size
  refine upon_val_ok (w' := { w with heap := w.heap.push (listB z.cells.toList T).obj }) (v := .pointer (some ⟨w.heap.size, 0, none⟩)) ?_
    ⟨_, _, _, r.put hd _, ⟨rfl, hc.2⟩, ?_, by rw [hc.1]; exact Ext.push hex _ _, h w.heap.size (by rw [hc.1]; exact hsz)⟩
  · rw [r.eval, listB_obj]
    simp [execOp, Instr.alloc, zeroValue, typeInfo, hi, hz, newVar, newRow]
  · rw [hc.1]; exact hw.push hex _

omit ty in
theorem ro_box {x : Operand} {v : Value} {vs : List Value} (hx : ev f x = v) (hz : v.cells.toList = vs) (hd : dstOk n d = true) (hex : h0.ex = false) (h : ∀ b, h0.h.size ≤ b → RO P G qs c n h0 ops Q rest (updo f d (.pointer (some ⟨b, 0, none⟩))) ((b, listB vs T) :: m)) :
    RO P G qs c n h0 ops Q (⟨d, .box T x, tt, pos, aft, none⟩ :: rest) f m := by
  subst hz
  refine ro_effA rfl rfl hd fun hp w hw hc a r => ?_
  have hsz := hw.size
  refine upon_val_ok (w' := { w with heap := w.heap.push (listB v.cells.toList T).obj }) (v := .pointer (some ⟨w.heap.size, 0, none⟩)) ?_
    ⟨_, _, _, r.put hd _, ⟨rfl, hc.2⟩, ?_, by rw [hc.1]; exact Ext.push hex _ _, h w.heap.size (by rw [hc.1]; exact hsz)⟩
  · rw [r.eval, listB_obj]
    simp [execOp, hx, Instr.box, newVar, newRow]
  · rw [hc.1]; exact hw.push hex _

/-! Slices -/
/-- Where a slice of a slice begins: at a length of no place the old begin is kept. -/
def sOff (o l s cap : Nat) : Nat := if cap = l then o else o + l * s
def optInt (f : Fr) (x : Option Operand) (dflt : Int) : Option Int := match x with
  | none => some dflt
  | some y => match ev f y with | .int _ i => some i | _ => none

omit ty in
theorem run_bound {k : IntKind} {i : Int} {y : Nat} {code : BoundsCode} (h0 : 0 ≤ i) (h1 : i ≤ y) (w : World) : (Instr.sliceBound (.int k i) y code).run P w = .ok i.toNat w := by
  simp [Instr.sliceBound, asIntOf, h0, h1]
omit ty in
theorem run_bounds {lo hi : Option Operand} {b : Bool} {len cap : Nat} {l h : Int} (hl : optInt f lo 0 = some l) (hh : optInt f hi len = some h) (h1 : 0 ≤ l) (h2 : l ≤ h) (h3 : h ≤ cap) (w : World) :
    (Instr.sliceBounds b len cap (lo.map (ev f)) (hi.map (ev f)) none).run P w = .ok (l.toNat, h.toNat, cap) w := by
  have hhi : (match hi.map (ev f) with | some v => Instr.sliceBound v cap (if b = true then .sliceAcap else .sliceAlen) | none => pure len : Sem Nat).run P w = .ok h.toNat w := by
    unfold optInt at hh
    cases hi with
    | none => simp at hh; subst hh; simp
    | some y =>
      simp only [Option.map_some] at hh ⊢
      cases hy : ev f y <;> rw [hy] at hh <;> first | (cases hh; done) | (simp at hh; subst hh; exact run_bound (by omega) h3 w)
  have hlo : (match lo.map (ev f) with | some v => Instr.sliceBound v h.toNat .sliceB | none => pure 0 : Sem Nat).run P w = .ok l.toNat w := by
    unfold optInt at hl
    cases lo with
    | none => simp at hl; subst hl; simp
    | some y =>
      simp only [Option.map_some] at hl ⊢
      cases hy : ev f y <;> rw [hy] at hl <;> first | (cases hl; done) | (simp at hl; subst hl; exact run_bound h1 (by omega) w)
  unfold Instr.sliceBounds
  cases hi <;> cases lo <;> simp_all

theorem ro_slice {x : Operand} {lo hi : Option Operand} {b o len cap e s : Nat} {l h : Int} (hx : ev f x = .slice (some ⟨b, o, none⟩) len cap) (hT : TyC.tk P T = .sl e) (hs : TyC.sz P e = s + 1)
    (hl : optInt f lo 0 = some l) (hh : optInt f hi len = some h) (h1 : 0 ≤ l) (h2 : l ≤ h) (h3 : h ≤ cap) (hd : dstOk n d = true)
    (hk : RO P G qs c n h0 ops Q rest (updo f d (.slice (some ⟨b, sOff o l.toNat (s + 1) cap, none⟩) (h.toNat - l.toNat) (cap - l.toNat))) m) :
    RO P G qs c n h0 ops Q (⟨d, .slice T x lo hi none, tt, pos, aft, none⟩ :: rest) f m := by
  refine ro_pure rfl rfl hd (fun w => ?_) hk
  have hb := run_bounds (P := P) (b := true) hl hh h1 h2 h3 w
  simp only [execOp, hx, Instr.sliceAt, Instr.slice, Sem.run_bind, run_underlying (u_sl hT), Result.andThen_ok, Option.map_none, hb, run_sizeOf hs (by omega), Sem.run_pure, sOff, Option.map_some, Addr_add]
  split <;> rfl
/-- .. of nothing. -/
theorem ro_sliceNil {x : Operand} {lo hi : Option Operand} {e s : Nat} (hx : ev f x = .slice none 0 0) (hT : TyC.tk P T = .sl e) (hs : TyC.sz P e = s + 1)
    (hl : optInt f lo 0 = some 0) (hh : optInt f hi 0 = some 0) (hd : dstOk n d = true)
    (hk : RO P G qs c n h0 ops Q rest (updo f d (.slice none 0 0)) m) :
    RO P G qs c n h0 ops Q (⟨d, .slice T x lo hi none, tt, pos, aft, none⟩ :: rest) f m := by
  refine ro_pure rfl rfl hd (fun w => ?_) hk
  have hb := run_bounds (P := P) (f := f) (lo := lo) (hi := hi) (b := true) (len := 0) (cap := 0) (l := 0) (h := 0) hl hh (by omega) (by omega) (by omega) w
  simp only [execOp, hx, Instr.sliceAt, Instr.slice, Sem.run_bind, run_underlying (u_sl hT), Result.andThen_ok, Option.map_none, hb, run_sizeOf hs (by omega), Sem.run_pure]
  rfl
/-- .. of an array. -/
theorem ro_sliceArr {x : Operand} {lo hi : Option Operand} {b o k e s : Nat} {l h : Int} (hx : ev f x = .pointer (some ⟨b, o, none⟩)) (hT : TyC.tk P T = .arr k e) (hs : TyC.sz P e = s + 1)
    (hl : optInt f lo 0 = some l) (hh : optInt f hi k = some h) (h1 : 0 ≤ l) (h2 : l ≤ h) (h3 : h ≤ k) (hd : dstOk n d = true)
    (hk : RO P G qs c n h0 ops Q rest (updo f d (.slice (some ⟨b, sOff o l.toNat (s + 1) k, none⟩) (h.toNat - l.toNat) (k - l.toNat))) m) :
    RO P G qs c n h0 ops Q (⟨d, .slice T x lo hi none, tt, pos, aft, none⟩ :: rest) f m := by
  refine ro_pure rfl rfl hd (fun w => ?_) hk
  have hb := run_bounds (P := P) (b := false) hl hh h1 h2 h3 w
  simp only [execOp, hx, Instr.sliceAt, Sem.run_bind, run_underlying (u_arr hT), Result.andThen_ok, Option.map_none, hb, run_sizeOf hs (by omega), Sem.run_pure, sOff, Addr_add, Instr.sureAddr]
  split <;> rfl

theorem ro_len {x : Operand} {b : Option Addr} {len cap e : Nat} {ats : Array TypeId} (hx : ev f x = .slice b len cap) (ha : ats[0]? = some T) (hT : TyC.tk P T = .sl e) (hd : dstOk n d = true)
    (hk : RO P G qs c n h0 ops Q rest (updo f d (.int .i64 len)) m) : RO P G qs c n h0 ops Q (⟨d, .call ⟨.builtin .len, #[x], ats⟩, tt, pos, aft, none⟩ :: rest) f m :=
  ro_pure rfl rfl hd (fun w => by simp [execOp, resolve, invoke, builtin, Builtin.len_, hx, ha, run_underlying (u_sl hT), goInt]) hk
theorem ro_cap {x : Operand} {b : Option Addr} {len cap e : Nat} {ats : Array TypeId} (hx : ev f x = .slice b len cap) (ha : ats[0]? = some T) (hT : TyC.tk P T = .sl e) (hd : dstOk n d = true)
    (hk : RO P G qs c n h0 ops Q rest (updo f d (.int .i64 cap)) m) : RO P G qs c n h0 ops Q (⟨d, .call ⟨.builtin .cap, #[x], ats⟩, tt, pos, aft, none⟩ :: rest) f m :=
  ro_pure rfl rfl hd (fun w => by simp [execOp, resolve, invoke, builtin, Builtin.cap_, hx, ha, run_underlying (u_sl hT), goInt]) hk
theorem ro_lenS {x : Operand} {s : ByteArray} {ats : Array TypeId} (hx : ev f x = .string s) (ha : ats[0]? = some T) (hT : TyC.tk P T = .string) (hd : dstOk n d = true)
    (hk : RO P G qs c n h0 ops Q rest (updo f d (.int .i64 s.size)) m) : RO P G qs c n h0 ops Q (⟨d, .call ⟨.builtin .len, #[x], ats⟩, tt, pos, aft, none⟩ :: rest) f m :=
  ro_pure rfl rfl hd (fun w => by simp [execOp, resolve, invoke, builtin, Builtin.len_, hx, ha, run_underlying (u_string hT), goInt]) hk
omit ty in
theorem ro_min {x y : Operand} {k k' : IntKind} {a b : Int} {ats : Array TypeId} (hx : ev f x = .int k a) (hy : ev f y = .int k' b) (hd : dstOk n d = true)
    (hk : RO P G qs c n h0 ops Q rest (updo f d (.int k (if b < a then b else a))) m) : RO P G qs c n h0 ops Q (⟨d, .call ⟨.builtin .min, #[x, y], ats⟩, tt, pos, aft, none⟩ :: rest) f m :=
  ro_pure rfl rfl hd (fun w => by simp [execOp, resolve, invoke, builtin, Builtin.min_, Builtin.min2, hx, hy]) hk
omit ty in
theorem ro_max {x y : Operand} {k k' : IntKind} {a b : Int} {ats : Array TypeId} (hx : ev f x = .int k a) (hy : ev f y = .int k' b) (hd : dstOk n d = true)
    (hk : RO P G qs c n h0 ops Q rest (updo f d (.int k (if b > a then b else a))) m) : RO P G qs c n h0 ops Q (⟨d, .call ⟨.builtin .max, #[x, y], ats⟩, tt, pos, aft, none⟩ :: rest) f m :=
  ro_pure rfl rfl hd (fun w => by simp [execOp, resolve, invoke, builtin, Builtin.max_, Builtin.max2, hx, hy]) hk

/-! Calls of functions -/
omit ty in
theorem Own.call {h h' : Heap} {pre m' fm : Mem} (hex : h0.ex = false) (o : Own h0 G (pre ++ fm) h) (o' : Own ⟨h, pre.keys, false⟩ G m' h') : Own h0 G (m' ++ fm) h' := by
  have hnd := o.nodup
  simp only [List.map_append, List.nodup_append, List.mem_append, List.mem_map] at hnd
  have hnd' := o'.nodup
  simp only [List.map_append, List.nodup_append, List.mem_map] at hnd'
  have hpre : ∀ q ∈ fm, q.1 ∉ pre.keys := by
    intro q hq hk
    obtain ⟨r, hr, he⟩ := List.mem_map.1 hk
    exact hnd.1.2.2 r.1 ⟨r, hr, rfl⟩ q.1 ⟨q, hq, rfl⟩ he
  have hfm : ∀ q ∈ fm, ∀ p ∈ m', p.1 ≠ q.1 := by
    intro q hq p hp e
    rcases o'.known p hp with hk | hlt
    · exact hpre q hq (e ▸ hk)
    · have := o.lt (p := q) (by simp [hq]); simp only at hlt; omega
  refine ⟨Nat.le_trans o.size o'.size, ?_, ?_, ?_, ?_, fun e => by rw [hex] at e; cases e⟩
  · intro q hq
    simp only [List.mem_append] at hq
    rcases hq with (hq | hq) | hq
    · exact o'.has q (by simp [hq])
    · have hlt := o.lt (p := q) (by simp [hq])
      have := o'.old q.1 hlt (hpre q hq)
      simp only at this
      rw [this]
      exact o.has q (by simp [hq])
    · exact o'.has q (by simp [hq])
  · simp only [List.map_append, List.nodup_append, List.mem_append, List.mem_map]
    refine ⟨⟨hnd'.1, hnd.1.2.1, ?_⟩, hnd'.2.1, ?_⟩
    · rintro _ ⟨p, hp, rfl⟩ _ ⟨q, hq, rfl⟩
      exact hfm q hq p hp
    · rintro _ (⟨p, hp, rfl⟩ | ⟨p, hp, rfl⟩) _ ⟨q, hq, rfl⟩
      · exact hnd'.2.2 _ ⟨p, hp, rfl⟩ _ ⟨q, hq, rfl⟩
      · exact hnd.2.2 _ (.inr ⟨p, hp, rfl⟩) _ ⟨q, hq, rfl⟩
  · intro p hp
    rcases List.mem_append.1 hp with hp | hp
    · rcases o'.known p hp with hk | hlt
      · obtain ⟨r, hr, he⟩ := List.mem_map.1 hk
        rw [← he]; exact o.known r (by simp [hr])
      · exact .inr (Nat.le_trans o.size hlt)
    · exact o.known p (by simp [hp])
  · intro b hb hn
    have hb' : b < h.size := Nat.lt_of_lt_of_le hb o.size
    have hk : b ∉ pre.keys := by
      intro hk
      obtain ⟨r, hr, he⟩ := List.mem_map.1 hk
      rcases o.known r (by simp [hr]) with h1 | h1
      · exact hn (he ▸ h1)
      · omega
    have := o'.old b hb' hk
    simp only at this
    rw [this]
    exact o.old b hb hn

omit ty in
/-- A call, by what it does to some blocks. -/
theorem ro_callGen {o : Oper} {fid : FuncId} {vs : Array Value} {pre fm : Mem} {R : Value → Mem → Prop} (hcl : cls qs o.op = 2) (hg : o.guard = none) (hd : dstOk n o.dst = true)
    (hr : ∀ w, (execOp (ev f) o).run P w = .ok (.enter fid vs) w) (ht : Trip P G fid vs pre R) (hs : Sel m pre fm)
    (hex : h0.ex = false) (hk : ∀ v m', R v m' → RO P G qs c n h0 ops Q rest (updo f o.dst v) (m' ++ fm)) : RO P G qs c n h0 ops Q (o :: rest) f m := by
  refine ro_eff hcl hg hd fun hp w hw hc a r => ?_
  have o1 := hw.perm hs.perm
  unfold Oper.wp
  rw [r.eval, hr w]
  refine (ht c hp w hc o1.startSub).mono ?_
  rintro e w' ⟨v, m', h', rfl, hc', o', hR⟩
  exact ⟨_, _, h', r.put hd v, hc', o1.call hex o', hk v m' hR⟩

theorem run_call {x : Operand} {xs : Array Operand} {ats : Array TypeId} {fid : FuncId} {first captured vs : Array Value} (hf : ev f x = .func (.func fid) first captured) (hx : xs.map (ev f) = vs) (hgo : TyC.go P fid = true) (w : World) :
    (execOp (ev f) ⟨d, .call ⟨.value x, xs, ats⟩, tt, pos, aft, none⟩).run P w = .ok (.enter fid (first ++ vs ++ captured)) w := by
  simp [execOp, resolve, Deferred.ofValue, hf, hx, invoke, run_callFunc hgo]

/-- A call of a named function. -/
theorem ro_call {xs : Array Operand} {ats : Array TypeId} {fid : FuncId} {vs : Array Value} {pre fm : Mem} {R : Value → Mem → Prop} (hq : qs.contains fid = false) (hgo : TyC.go P fid = true) (hx : xs.map (ev f) = vs) (hd : dstOk n d = true)
    (ht : Trip P G fid vs pre R) (hs : Sel m pre fm)
    (hex : h0.ex = false) (hk : ∀ v m', R v m' → RO P G qs c n h0 ops Q rest (updo f d v) (m' ++ fm)) :
    RO P G qs c n h0 ops Q (⟨d, .call ⟨.value (.func fid), xs, ats⟩, tt, pos, aft, none⟩ :: rest) f m :=
  ro_callGen (by unfold cls; simp only [hq]; rfl) rfl hd (fun w => by rw [run_call (f := f) (fid := fid) (first := #[]) (captured := #[]) rfl hx hgo]; simp) ht hs hex hk
/-- A call of a function value. -/
theorem ro_callV {t : Nat} {xs : Array Operand} {ats : Array TypeId} {fid : FuncId} {first captured vs : Array Value} {pre fm : Mem} {R : Value → Mem → Prop} (hf : f t = .func (.func fid) first captured) (hgo : TyC.go P fid = true) (hx : xs.map (ev f) = vs) (hd : dstOk n d = true)
    (ht : Trip P G fid (first ++ vs ++ captured) pre R) (hs : Sel m pre fm)
    (hex : h0.ex = false) (hk : ∀ v m', R v m' → RO P G qs c n h0 ops Q rest (updo f d v) (m' ++ fm)) :
    RO P G qs c n h0 ops Q (⟨d, .call ⟨.value (.tmp t), xs, ats⟩, tt, pos, aft, none⟩ :: rest) f m :=
  ro_callGen rfl rfl hd (fun w => run_call (f := f) (x := .tmp t) (fid := fid) hf hx hgo w) ht hs hex hk
omit ty in
/-- A call through an interface value. -/
theorem ro_invoke {x : Operand} {mt : String} {xs : Array Operand} {ats : Array TypeId} {fid : FuncId} {rv : Value} {us vs : Array Value} {pre fm : Mem} {R : Value → Mem → Prop} (hf : ev f x = rv) (hx : xs.map (ev f) = us) (hd : dstOk n d = true)
    (hr : ∀ w, (callMethod rv mt us).run P w = .ok (.enter fid vs) w)
    (ht : Trip P G fid vs pre R) (hs : Sel m pre fm)
    (hex : h0.ex = false) (hk : ∀ v m', R v m' → RO P G qs c n h0 ops Q rest (updo f d v) (m' ++ fm)) :
    RO P G qs c n h0 ops Q (⟨d, .call ⟨.invoke x mt, xs, ats⟩, tt, pos, aft, none⟩ :: rest) f m := by
  refine ro_callGen rfl rfl hd (fun w => ?_) ht hs hex hk
  have h2 : (#[rv] ++ us).extract 1 (#[rv] ++ us).size = us := by
    apply Array.ext_getElem?; intro i; simp
  have h3 : (#[rv] ++ us)[0]? = some rv := by simp [Array.getElem?_append]
  simp only [execOp, resolve, hf, hx, Sem.run_bind, Sem.run_pure, Result.andThen_ok, invoke, h2, h3]
  exact hr w

end
end Go.Eng
