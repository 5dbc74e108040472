/-
  AN ENGINE OF WALKS, PART 13: slices written out; clear; methods of interface values; type assertions; results in cells; comparisons that are settled.
-/
import Derived.Test.YtogmacnlpclgkaaDoorEngC
namespace Go.Eng
open Go

section
variable {P : Program} [ty : TyC P] {G : Mem} {qs : List FuncId} {c : World} {n : Nat} {h0 : Base} {ops : Array Oper} {Q : Fr → Mem → Prop} {rest : List Oper} {f : Fr} {m : Mem}
variable {d : Option Tmp} {T T' tt : TypeId} {pos : String} {aft : Array Edge}

theorem ro_buildSlice1 {l : List (Nat × Operand)} {len e : Nat} {z : Value} {vs : List Value} (hT : TyC.tk P T = .sl e) (hs : TyC.sz P e = 1) (hz : zeroL P e = some [z]) (hlen : Nat.ble len 16777216 = true)
    (hall : (evParts f l).all (fun p => Nat.blt p.1 len && one1 p.2) = true) (hvs : setAll (List.replicate len z) (evParts f l) = vs) (hd : dstOk n d = true) (hex : h0.ex = false)
    (h : ∀ b, h0.h.size ≤ b → RO P G qs c n h0 ops Q rest (updo f d (.slice (some ⟨b, 0, none⟩) len len)) ((b, listB vs e) :: m)) :
    RO P G qs c n h0 ops Q (⟨d, .buildSlice T len l.toArray, tt, pos, aft, none⟩ :: rest) f m := by
  refine ro_effA rfl rfl hd fun hp w hw hc a r => ?_
  unfold zeroL at hz
  simp only [Option.bind_eq_some_iff, Option.map_eq_some_iff] at hz
  obtain ⟨i, hi, zz, hz, hzc⟩ := hz
  have hzc' : zz.cells = #[z] := by
    rw [← Array.toList_inj]; exact hzc
  have hsz := hw.size
  have hlen' : len ≤ 16777216 := Nat.le_of_ble_eq_true hlen
  have hfill := fill_flat (fun i => some (i * 1, 1)) len (fun i hi => by simp) (evParts f l) (List.replicate len z) (by simp) (fun p hp => by
    have := List.all_eq_true.1 hall p hp
    simp only [Bool.and_eq_true] at this
    exact ⟨by simpa [Nat.blt_eq] using this.1, this.2⟩)
  rw [hvs] at hfill
  refine upon_val_ok (w' := { w with heap := w.heap.push (listB vs e).obj }) (v := .slice (some ⟨w.heap.size, 0, none⟩) len len) ?_
    ⟨_, _, _, r.put hd _, ⟨rfl, hc.2⟩, ?_, by rw [hc.1]; exact Ext.push hex _ _, h w.heap.size (by rw [hc.1]; exact hsz)⟩
  · rw [r.eval, listB_obj]
    have he := evParts_eq f l
    have hrun : (Instr.buildSlice T len (l.toArray.map fun (i, x) => (i, ev f x))).run P w = .ok (.slice (some ⟨w.heap.size, 0, none⟩) len len) { w with heap := w.heap.push (.cells vs.toArray e) } := by
      rw [he]
      simp only [Instr.buildSlice, Sem.run_bind, run_underlying (u_sl hT), Result.andThen_ok, run_sizeOf hs (by omega)]
      have h1 : ¬ (len * 1 > 2 ^ 24) := by omega
      simp only [h1, if_false]
      have hcells : (Array.map (fun x => (if len = 0 then #[] else #[z])[x % (if len = 0 then #[] else #[z]).size]!) (Array.range (len * 1))) = (List.replicate len z).toArray := by
        apply Array.ext_getElem?
        intro j
        by_cases h2 : len = 0
        · subst h2; simp
        · simp only [h2, if_false]
          by_cases hj : j < len
          · simp [hj, Nat.mod_one]
          · simp [hj]
      by_cases h2 : len = 0
      · subst h2
        simp only [if_true] at hcells
        simp only [Nat.zero_mul, if_true, Sem.run_bind, Sem.run_pure, Result.andThen_ok]
        simp only [Nat.zero_mul] at hcells
        rw [hcells, hfill]
        simp [newRow]
      · have h3 : ¬ (len * 1 = 0) := by omega
        simp only [h2, if_false] at hcells
        simp only [h3, if_false, Sem.run_bind, zeroValue, typeInfo, run_program, hi, hz, Result.andThen_ok, Sem.run_pure, hzc', hcells]
        rw [hfill]
        simp [newRow]
    simp only [execOp, Sem.run_bind, hrun, Result.andThen_ok, Sem.run_pure]
  · rw [hc.1]; exact hw.push hex _

theorem ro_clear1 {x : Operand} {ats : Array TypeId} {b o len cap e : Nat} {B : Blk} {z : Value} {m' : Mem} (hx : ev f x = .slice (some ⟨b, o, none⟩) len cap) (ha : ats[0]? = some T) (hT : TyC.tk P T = .sl e) (hs : TyC.sz P e = 1) (hz : zeroL P e = some [z]) (hz1 : one1 z = true)
    (hm : Put m b B ⟨B.n, blit B.g o len (fun _ => z), B.T, B.fr⟩ m') (hf : B.fr = (0, 0)) (ho : o + len ≤ B.n) (hex : h0.ex = false) (hd : dstOk n d = true)
    (h : RO P G qs c n h0 ops Q rest (updo f d (.tuple #[])) m') :
    RO P G qs c n h0 ops Q (⟨d, .call ⟨.builtin .clear, #[x], ats⟩, tt, pos, aft, none⟩ :: rest) f m := by
  refine ro_eff rfl rfl hd fun hp w hw hc a r => ?_
  unfold zeroL at hz
  simp only [Option.bind_eq_some_iff, Option.map_eq_some_iff] at hz
  obtain ⟨i, hi, zz, hz, hzc⟩ := hz
  have hzc' : zz.cells = #[z] := by rw [← Array.toList_inj]; exact hzc
  have hb : w.heap[b]? = some B.obj := by rw [hc.1]; exact hw.has _ (List.mem_append.2 (.inl hm.mem))
  have hc' : At c w.heap w := ⟨rfl, hc.2⟩
  have hzs : (Builtin.zeroCells #[z] len).toList = List.replicate len z := by
    apply List.ext_getElem?
    intro j
    by_cases hj : j < len
    · simp [Builtin.zeroCells, hj, Nat.mod_one]
    · simp [Builtin.zeroCells, hj]
  obtain ⟨w', hr, hc2, t⟩ := run_storeCells_blk (P := P) (List.replicate len z) 0 (o := o) hb hf (by simp; omega) (fun v hv => by rw [List.eq_of_mem_replicate hv]; exact hz1) hc'
  by_cases h0' : len = 0
  · subst h0'
    refine upon_val_ok (v := .tuple #[]) (w' := w) ?_ ⟨_, _, w.heap, r.put hd _, hc', ?_, h⟩
    · rw [r.eval]
      simp [execOp, resolve, invoke, builtin, Builtin.clear_, hx, ha, run_underlying (u_sl hT)]
    · rw [hc.1]
      refine hw.turned hex hm ?_
      rw [blit_zero]
      rw [hc.1] at hb
      exact .refl hb
  · refine upon_val_ok (v := .tuple #[]) (w' := w') ?_ ⟨_, _, w'.heap, r.put hd _, hc2, ?_, h⟩
    · rw [r.eval]
      obtain ⟨k, rfl⟩ : ∃ k, len = k + 1 := ⟨len - 1, by omega⟩
      simp only [execOp, resolve, Sem.run_bind, Sem.run_pure, Result.andThen_ok, invoke, builtin, Builtin.clear_]
      rw [show (#[x].map (ev f)) = #[ev f x] by simp, hx]
      simp [ha, run_underlying (u_sl hT), zeroValue, typeInfo, hi, hz, hzc', hzs, hr]
    · rw [hc.1] at t
      refine hw.turned hex hm (t.congr ?_)
      unfold Blk.obj
      congr 1
      apply Blk.cells_congr
      intro j hj
      simp only [List.length_replicate]
      change blit B.g (o + 0) len (listG (List.replicate len z)) j = blit B.g o len (fun _ => z) j
      by_cases h1 : o ≤ j ∧ j < o + len
      · rw [blit_in _ _ _ _ _ (by omega) (by omega), blit_in _ _ _ _ _ (by omega) (by omega)]
        simp [listG, show j - o < len by omega]
      · rw [blit_out _ _ _ _ _ (by omega), blit_out _ _ _ _ _ (by omega)]

/-! Methods -/
/-- The method of a pointer's type, by name, where it is the pointer's own. -/
def mthd (P : Program) (t : TypeId) (name : String) : Option FuncId :=
  (P.info? t).bind fun i => (i.methods.find? (·.name == name)).bind fun m => match m.path.toList, m.func with
    | [], some (fid, true) => some fid
    | _, _ => none
theorem mthd_run {t e : TypeId} {name : String} {fid : FuncId} (hm : mthd P t name = some fid) (ht : TyC.tk P t = .ptr e) (w : World) (k : Nat) (v : Value) :
    (method (k + 1) t v name).run P w = .ok (fid, v) w ∧ (nilAhead (k + 1) t v name).run P w = .ok (some false) w := by
  unfold mthd at hm
  simp only [Option.bind_eq_some_iff] at hm
  obtain ⟨i, hi, mm, hmm, h⟩ := hm
  split at h
  · rename_i hp hf
    cases h
    constructor
    · simp [method, typeInfo, hi, hmm, hp, hf, follow, receiverAt, run_underlying (u_ptr ht), Place.get]
    · simp [nilAhead, typeInfo, hi, hmm, hp, hf, followBlind]
  · cases h
theorem callMethod_run {t e : TypeId} {name : String} {fid : FuncId} {v : Value} (hm : mthd P t name = some fid) (ht : TyC.tk P t = .ptr e) (hgo : TyC.go P fid = true) (us : List Value) (w : World) :
    (callMethod (.iface t v) name us.toArray).run P w = .ok (.enter fid (v :: us).toArray) w := by
  have h1 := (mthd_run (v := v) hm ht w (P.types.size + Made.depth - 1) ).1
  have h2 : P.types.size + Made.depth - 1 + 1 = P.types.size + Made.depth := by
    have : 0 < Made.depth := by decide
    omega
  rw [h2] at h1
  simp [callMethod, h1, run_callFunc hgo]

omit ty in
/-- A method's value and the test that it is one. -/
theorem ro_makeMethod {x : Operand} {v : Value} {name : String} (hx : ev f x = v) (hd : dstOk n d = true) (h : RO P G qs c n h0 ops Q rest (updo f d (.func (.method name) #[v] #[])) m) :
    RO P G qs c n h0 ops Q (⟨d, .makeFunc (.method name) #[x] #[], tt, pos, aft, none⟩ :: rest) f m :=
  ro_pure rfl rfl hd (fun w => by simp [execOp, hx, Instr.makeFunc]) h
theorem ro_nilCheckM {x : Operand} {name : String} {t e : TypeId} {v : Value} {fid : FuncId} (hm : mthd P t name = some fid) (hx : ev f x = .func (.method name) #[.iface t v] #[]) (ht : TyC.tk P t = .ptr e) (hd : dstOk n d = true)
    (h : RO P G qs c n h0 ops Q rest (updo f d (.func (.method name) #[.iface t v] #[])) m) :
    RO P G qs c n h0 ops Q (⟨d, .nilCheck x, tt, pos, aft, none⟩ :: rest) f m := by
  refine ro_pure rfl rfl hd (fun w => ?_) h
  have h1 := (mthd_run (v := v) hm ht w (P.types.size + Made.depth - 1) ).2
  have h2 : P.types.size + Made.depth - 1 + 1 = P.types.size + Made.depth := by
    have : 0 < Made.depth := by decide
    omega
  rw [h2] at h1
  simp [execOp, hx, h1]
/-- A call of a method through an interface value. -/
theorem ro_callI {x : Operand} {mt : String} {l : List Operand} {ats : Array TypeId} {t e : TypeId} {fid : FuncId} {rv : Value} {us : List Value} {pre fm : Mem} {R : Value → Mem → Prop}
    (hm : mthd P t mt = some fid) (ht : TyC.tk P t = .ptr e) (hgo : TyC.go P fid = true) (hT : Trip P G fid (rv :: us).toArray pre R)
    (hk : ∀ v m', R v m' → RO P G qs c n h0 ops Q rest (updo f d v) (m' ++ fm))
    (hf : ev f x = .iface t rv := by exact rfl) (hx : l.map (ev f) = us := by exact rfl) (hd : dstOk n d = true := by exact rfl)
    (hs : MEqv m (pre ++ fm) := by first | exact MEqv.refl _ | (apply SelE.eqv; repeat (first | exact .nil | exact .all | exact .allN | exact .pref | exact .suf | (apply SelE.cons; (first | exact .here (by first | with_reducible rfl | exact blk_tab rfl rfl rfl rfl | exact rfl) | exact .there (.here (by first | with_reducible rfl | exact blk_tab rfl rfl rfl rfl | exact rfl)) | exact .there (.there (.here (by first | with_reducible rfl | exact blk_tab rfl rfl rfl rfl | exact rfl))) | exact .there (.there (.there (.here (by first | with_reducible rfl | exact blk_tab rfl rfl rfl rfl | exact rfl)))) | exact .there (.there (.there (.there (.here (by first | with_reducible rfl | exact blk_tab rfl rfl rfl rfl | exact rfl))))) | exact .there (.there (.there (.there (.there (.here (by first | with_reducible rfl | exact blk_tab rfl rfl rfl rfl | exact rfl)))))) | exact .there (.there (.there (.there (.there (.there (.here (by first | with_reducible rfl | exact blk_tab rfl rfl rfl rfl | exact rfl))))))) | exact .there (.there (.there (.there (.there (.there (.there (.here (by first | with_reducible rfl | exact blk_tab rfl rfl rfl rfl | exact rfl)))))))) | exact .there (.there (.there (.there (.there (.there (.there (.there (.here (by first | with_reducible rfl | exact blk_tab rfl rfl rfl rfl | exact rfl))))))))))) | apply SelE.skip)))
    (hex : h0.ex = false := by with_reducible assumption) :
    RO P G qs c n h0 ops Q (⟨d, .call ⟨.invoke x mt, l.toArray, ats⟩, tt, pos, aft, none⟩ :: rest) f m := by
  refine ro_callGenE rfl rfl hd (fun w => ?_) hT hs hex hk
  have h2 : (#[(Value.iface t rv)] ++ us.toArray).extract 1 (#[(Value.iface t rv)] ++ us.toArray).size = us.toArray := by
    apply Array.ext_getElem?; intro i; simp
  have h3 : (#[(Value.iface t rv)] ++ us.toArray)[0]? = some (.iface t rv) := by simp
  simp only [execOp, resolve, hf, toArray_map hx, Sem.run_bind, Sem.run_pure, Result.andThen_ok, invoke, h2, h3]
  exact callMethod_run hm ht hgo us w

/-! Type assertions to an interface -/
def taOk (P : Program) (A t : TypeId) : Option Bool := match P.underlying A with
  | some (.interface want) => (P.info? t).map fun i => (want.toList.filter fun x => !i.methods.any fun m => m.name == x.1 && m.sig == x.2).isEmpty
  | _ => none
omit ty in
theorem missing_aux (p : String → Bool) (g : String → String) (a : String) (l : List String) : (Instr.least ((a :: l).filter (not ∘ p)) <|> Instr.least (((a :: l).filter p).map g)).isNone = false := by
  by_cases hc : p a = true
  · rw [List.filter_cons_of_pos (p := p) hc]
    simp only [List.map_cons]
    cases Instr.least (List.filter (not ∘ p) (a :: l)) <;> rfl
  · rw [List.filter_cons_of_pos (p := not ∘ p) (by simpa using hc)]
    rfl
omit ty in
theorem missing_none (want : Array (String × TypeId)) (got : Array Method) : (Instr.missingMethod want got).isNone = (want.toList.filter fun x => !got.any fun m => m.name == x.1 && m.sig == x.2).isEmpty := by
  have hl : ∀ l : List String, (Instr.least l).isNone = l.isEmpty := fun l => by cases l <;> rfl
  unfold Instr.missingMethod
  simp only
  generalize hf : (want.toList.filter fun x => !got.any fun m => m.name == x.1 && m.sig == x.2) = l
  cases l with
  | nil => rfl
  | cons x xs =>
    simp only [List.map_cons, List.partition_eq_filter_filter, List.isEmpty_cons]
    exact missing_aux _ _ _ _
omit ty in
theorem ro_taI {x : Operand} {X A t : TypeId} {v : Value} {b : Bool} (hx : ev f x = .iface t v) (ht : taOk P A t = some b) (hz : (P.info? A).bind (·.zero) = some .nilIface) (hd : dstOk n d = true)
    (h : RO P G qs c n h0 ops Q rest (updo f d (.tuple #[if b then .iface t v else .nilIface, .bool b])) m) :
    RO P G qs c n h0 ops Q (⟨d, .typeAssert x X A true, tt, pos, aft, none⟩ :: rest) f m := by
  refine ro_pure rfl rfl hd (fun w => ?_) h
  unfold taOk at ht
  split at ht
  · rename_i want hu
    simp only [Option.map_eq_some_iff, Option.bind_eq_some_iff] at ht hz
    obtain ⟨i, hi, hb⟩ := ht
    rw [← missing_none] at hb
    obtain ⟨j, hj, hjz⟩ := hz
    simp only [execOp, hx, Instr.typeAssert, Sem.run_bind, run_underlying hu, Result.andThen_ok, typeInfo, hi, run_program, Sem.run_pure]
    cases hmm : Instr.missingMethod want i.methods with
    | none =>
      rw [hmm] at hb
      simp only [Option.isNone_none] at hb
      subst hb
      simp
    | some s =>
      rw [hmm] at hb
      simp only [Option.isNone_some] at hb
      subst hb
      simp [zeroValue, typeInfo, hj, hjz]
  · cases ht

/-! Comparisons -/
omit ty in
theorem ro_eqBool {x y : Operand} {a b : Bool} (hx : ev f x = .bool a) (hy : ev f y = .bool b) (hT : P.underlying T = some .bool) (hd : dstOk n d = true)
    (h : RO P G qs c n h0 ops Q rest (updo f d (.bool (a == b))) m) : RO P G qs c n h0 ops Q (⟨d, .binOp .eql T x y T', tt, pos, aft, none⟩ :: rest) f m := by
  refine ro_read (Nat.le_refl _) rfl hd (fun _ hp w hw hc => ⟨w, hc, .inl ?_⟩) (fun h => by cases h) h
  have : (Op.equal T (.bool a) (.bool b)).run P w = .ok (a == b) w := run_equal_of fun k => by simp [Op.equalIn, run_underlying hT]
  simp [execOp, hx, hy, eqGuard, binOp, this]

end
end Go.Eng
