/-
  AN ENGINE OF WALKS, MORE RULES: struct values of single cells; loads out of either memory; pointers in interface values.
-/
import Derived.Test.YtogmacnlpclgkaaDoorEng8
namespace Go.Eng
open Go

/-- The parts set in their places. -/
def setAll (zs : List Value) : List (Nat × Value) → List Value
  | [] => zs
  | (i, v) :: r => setAll (zs.set i v) r
/-- All fields of one cell, the i-th at place i. -/
def flatB (sz : TypeId → Nat) : Nat → List (Nat × TypeId) → Bool
  | _, [] => true
  | i, (o, T) :: r => Nat.beq o i && Nat.beq (sz T) 1 && flatB sz (i + 1) r
def flatTk (sz : TypeId → Nat) : TK → Bool
  | .st fs => flatB sz 0 fs
  | _ => false
theorem flatB_get {sz : TypeId → Nat} : ∀ {fs : List (Nat × TypeId)} {k : Nat}, flatB sz k fs = true → ∀ i p, fs[i]? = some p → p.1 = k + i ∧ sz p.2 = 1
  | [], _, _, i, p, h => by simp at h
  | (o, T) :: r, k, hb, i, p, h => by
    simp only [flatB, Bool.and_eq_true] at hb
    cases i with
    | zero =>
      simp only [List.getElem?_cons_zero, Option.some.injEq] at h
      subst h
      exact ⟨Nat.eq_of_beq_eq_true hb.1.1, Nat.eq_of_beq_eq_true hb.1.2⟩
    | succ i =>
      simp only [List.getElem?_cons_succ] at h
      have := flatB_get hb.2 i p h
      exact ⟨by omega, this.2⟩

theorem fill_flat (place : Nat → Option (Nat × Nat)) (k : Nat) (hp : ∀ i, i < k → place i = some (i, 1)) : ∀ (parts : List (Nat × Value)) (l : List Value), l.length = k → (∀ p ∈ parts, p.1 < k ∧ one1 p.2 = true) →
    Instr.fill place l.toArray parts = some (setAll l parts).toArray
  | [], l, _, _ => rfl
  | (i, v) :: r, l, hl, hall => by
    obtain ⟨hi, hv⟩ := hall (i, v) List.mem_cons_self
    have hc : v.cells = #[v] := by cases v <;> first | (cases hv; done) | rfl
    unfold Instr.fill
    simp only [hp i hi, hc]
    have h1 : ¬ (#[v].size ≠ 1 ∨ i + #[v].size > l.toArray.size) := by simp; omega
    simp only [List.size_toArray, List.length_cons, List.length_nil]
    have h2 : (decide ((0 + 1) ≠ 1) || decide (i + (0 + 1) > l.length)) = false := by
      rw [Bool.or_eq_false_iff]; exact ⟨by decide, decide_eq_false (by omega)⟩
    simp only [h2, Bool.false_eq_true, if_false]
    have h3 : (#[v].zipIdx.foldl (fun cs (x : Value × Nat) => cs.setIfInBounds (i + x.2) x.1) l.toArray) = (l.set i v).toArray := by
      simp
    have h4 := fill_flat place k hp r (l.set i v) (by simpa using hl) (fun p hp' => hall p (List.mem_cons_of_mem _ hp'))
    simp only [setAll]
    rw [← h4]
    congr 1

section
variable {P : Program} [ty : TyC P] {G : Mem} {qs : List FuncId} {c : World} {n : Nat} {h0 : Base} {ops : Array Oper} {Q : Fr → Mem → Prop} {rest : List Oper} {f : Fr} {m : Mem}
variable {d : Option Tmp} {T T' tt : TypeId} {pos : String} {aft : Array Edge}

omit ty in
theorem run_places {fl : Array Field} {pl : List (Nat × Nat)} (h : ∀ w, fl.toList.map (fun fd => (fd.offset, (sizeOf fd.type).run P w)) = pl.map (fun p => (p.1, Result.ok p.2 w))) (w : World) :
    ((fl.mapM fun fd => do pure (fd.offset, ← sizeOf fd.type) : Sem (Array (Nat × Nat)))).run P w = .ok pl.toArray w := by
  obtain ⟨l⟩ := fl
  simp only [List.mapM_toArray, Sem.run_map] at h ⊢
  have key : ∀ (l : List Field) (pl : List (Nat × Nat)), (∀ w, l.map (fun fd => (fd.offset, (sizeOf fd.type).run P w)) = pl.map (fun p => (p.1, Result.ok p.2 w))) →
      ((l.mapM fun fd => do pure (fd.offset, ← sizeOf fd.type) : Sem (List (Nat × Nat)))).run P w = .ok pl w := by
    intro l
    induction l with
    | nil => intro pl h; cases pl with
      | nil => simp
      | cons p pl => exact absurd (h w) (by simp)
    | cons fd l ih =>
      intro pl h
      cases pl with
      | nil => exact absurd (h w) (by simp)
      | cons p pl =>
        have h1 := fun w => h w
        simp only [List.map_cons, List.cons.injEq, Prod.mk.injEq] at h1
        have e := ih pl (fun w => (h1 w).2)
        simp only [List.mapM_cons, Sem.run_bind, (h1 w).1.2, Result.andThen_ok, Sem.run_pure, e]
        rw [(h1 w).1.1]
  rw [key l pl h]
  rfl

theorem ro_build1G {ps : Array (Nat × Operand)} {parts : List (Nat × Value)} {zs : List Value} {fs : List (Nat × TypeId)} (hk : TyC.tk P T = .st fs) (hfl : flatB (TyC.sz P) 0 fs = true) (hz : zeroL P T = some zs)
    (hps : (ps.map fun (i, x) => (i, ev f x)) = parts.toArray) (hall : parts.all (fun p => Nat.blt p.1 fs.length && one1 p.2) = true) (hlen : zs.length = fs.length) (hd : dstOk n d = true)
    (h : RO P G qs c n h0 ops Q rest (updo f d (.agg (setAll zs parts).toArray)) m) : RO P G qs c n h0 ops Q (⟨d, .build T ps, tt, pos, aft, none⟩ :: rest) f m := by
  refine ro_build (fun w => ?_) hd h
  obtain ⟨fl, hf, hl⟩ := u_st hk
  unfold zeroL at hz
  simp only [Option.bind_eq_some_iff, Option.map_eq_some_iff] at hz
  obtain ⟨i, hi, z, hz, rfl⟩ := hz
  have hflen : fl.size = fs.length := by rw [← hl]; simp
  have hpl : ∀ w, (fl.mapM fun fd => do pure (fd.offset, ← sizeOf fd.type) : Sem (Array (Nat × Nat))).run P w = .ok ((List.range fs.length).map fun i => (i, 1)).toArray w := fun w => by
    refine run_places (fun w => ?_) w
    apply List.ext_getElem?
    intro j
    by_cases hj : j < fs.length
    · have hj' : j < fl.size := by omega
      have hg := flatB_get hfl j (fs[j]) (by simp [hj])
      have he : fs[j]? = some (fl[j].offset, fl[j].type) := by rw [← hl]; simp [hj']
      have he' : fs[j] = (fl[j].offset, fl[j].type) := by simpa [hj] using he
      rw [he'] at hg
      simp only [Nat.zero_add] at hg
      have hs := run_sizeOf (P := P) hg.2 (by omega) w
      simp [hj, hj', hg.1, hs]
    · have hj' : ¬ j < fl.size := by omega
      rw [List.getElem?_eq_none (by simp; omega), List.getElem?_eq_none (by simp; omega)]
  have hfill := fill_flat (fun i => ((List.range fs.length).map fun i => (i, 1))[i]?) fs.length (fun i hi => by simp [hi]) parts z.cells.toList hlen (fun p hp => by
    have := List.all_eq_true.1 hall p hp
    simp only [Bool.and_eq_true] at this
    exact ⟨by simpa [Nat.blt_eq] using this.1, this.2⟩)
  rw [hps]
  simp only [Instr.build, Sem.run_bind, zeroValue, typeInfo, run_program, Result.andThen_ok, hi, Sem.run_pure, hz, run_underlying hf, hpl]
  simp only [Array.toArray_toList, List.getElem?_toArray] at hfill ⊢
  rw [hfill]
  rfl

def evParts (f : Fr) : List (Nat × Operand) → List (Nat × Value)
  | [] => []
  | (i, x) :: r => (i, ev f x) :: evParts f r
omit ty in
theorem evParts_eq (f : Fr) (l : List (Nat × Operand)) : (l.toArray.map fun (i, x) => (i, ev f x)) = (evParts f l).toArray := by
  rw [List.map_toArray]
  congr 1
  induction l with
  | nil => rfl
  | cons p r ih => obtain ⟨i, x⟩ := p; simp only [List.map_cons, evParts, ih]
/-- A struct value of fields of one cell each. -/
theorem ro_build1 {l : List (Nat × Operand)} {zs vs : List Value} {fs : List (Nat × TypeId)} (hk : TyC.tk P T = .st fs) (hfl : flatB (TyC.sz P) 0 fs = true) (hz : zeroL P T = some zs)
    (hall : (evParts f l).all (fun p => Nat.blt p.1 fs.length && one1 p.2) = true) (hlen : zs.length = fs.length) (hvs : setAll zs (evParts f l) = vs) (hd : dstOk n d = true)
    (h : RO P G qs c n h0 ops Q rest (updo f d (.agg vs.toArray)) m) : RO P G qs c n h0 ops Q (⟨d, .build T l.toArray, tt, pos, aft, none⟩ :: rest) f m :=
  ro_build1G hk hfl hz (evParts_eq f l) hall hlen hd (by rw [hvs]; exact h)

/-! Memory of either kind -/
theorem ro_loadA {x : Operand} {b o : Nat} {B : Blk} {v : Value} (hx : ev f x = .pointer (some ⟨b, o, none⟩)) (hT : oneTk (TyC.tk P T) = true) (hm : (b, B) ∈ m ++ G) (hn : o < B.n) (hv : B.g o = v)
    (hd : dstOk n d = true) (h : RO P G qs c n h0 ops Q rest (updo f d v) m) : RO P G qs c n h0 ops Q (⟨d, .load T x, tt, pos, aft, none⟩ :: rest) f m := by
  refine ro_read (Nat.le_refl _) rfl hd (fun _ hp w hw hc => ⟨w, hc, .inl ?_⟩) (fun h => by cases h) h
  have hb : w.heap[b]? = some B.obj := by rw [hc.1]; exact hw.has _ hm
  simp [execOp, hx, Instr.loadAt, Instr.sureAddr, loadVar, run_isAgg_one hT, cell_of hb hn, hv]
theorem ro_loadAggA {x : Operand} {b o s : Nat} {B : Blk} (hx : ev f x = .pointer (some ⟨b, o, none⟩)) (hT : aggTk (TyC.tk P T) = true) (hs : TyC.sz P T = s + 1) (hm : (b, B) ∈ m ++ G) (hn : o + (s + 1) ≤ B.n)
    (hd : dstOk n d = true) (h : RO P G qs c n h0 ops Q rest (updo f d (.agg (tabL (s + 1) fun i => B.g (o + i)).toArray)) m) : RO P G qs c n h0 ops Q (⟨d, .load T x, tt, pos, aft, none⟩ :: rest) f m := by
  refine ro_read (Nat.le_refl _) rfl hd (fun _ hp w hw hc => ⟨w, hc, .inl ?_⟩) (fun h => by cases h) h
  have hb : w.heap[b]? = some B.obj := by rw [hc.1]; exact hw.has _ hm
  simp [execOp, hx, Instr.loadAt, Instr.sureAddr, loadVar, run_isAgg_agg hT, run_sizeOf hs (by omega), run_loadCells_blk hb hn]

/-! Pointers in interface values -/
theorem run_eqIfcPtr {w : World} {t e : TypeId} {i : TypeInfo} {s b o b' o' : Nat} {B B' : Blk} {r : Bool} (hT : TyC.tk P T = .ifc) (ht : TyC.tk P t = .ptr e) (hi : P.info? t = some i) (hcmp : i.comparable = true) (hs : TyC.sz P e = s + 1)
    (hr : (b = b' ∧ r = decide (o = o')) ∨ (b ≠ b' ∧ r = false ∧ w.heap[b]? = some B.obj ∧ w.heap[b']? = some B'.obj ∧ B.fr = (0, 0) ∧ B'.fr = (0, 0))) :
    (Op.equal T (.iface t (.pointer (some ⟨b, o, none⟩))) (.iface t (.pointer (some ⟨b', o', none⟩)))).run P w = .ok r w := run_equal_of fun k => by
  obtain ⟨ms, hm⟩ := u_ifc hT
  rcases hr with ⟨rfl, rfl⟩ | ⟨hne, rfl, g1, g2, hf, hf'⟩
  · have : (({ block := b, off := o } : Addr) == { block := b, off := o' }) = decide (o = o') := by
      by_cases h : o = o'
      · subst h; simp
      · simp [h]
    simp [Op.equalIn, run_underlying hm, typeInfo, hi, hcmp, run_underlying (u_ptr ht), run_sizeOf hs (by omega), sameAddr, this]
  · have s1 : w.shape? b = some (B.T, B.n) := by simp [World.shape?, g1, Blk.obj, Blk.size]
    have s2 : w.shape? b' = some (B'.T, B'.n) := by simp [World.shape?, g2, Blk.obj, Blk.size]
    have z1 : ∀ o, w.frozen? ⟨b, o, none⟩ = false := frozen_of g1 hf
    have z2 : ∀ o, w.frozen? ⟨b', o, none⟩ = false := frozen_of g2 hf'
    simp [Op.equalIn, run_underlying hm, typeInfo, hi, hcmp, run_underlying (u_ptr ht), run_sizeOf hs (by omega), sameAddr, hne, z1, z2, noView, viewAt, s1, s2, mayBeOne, stringish]

theorem ro_eqPtrs {x y : Operand} {t e : TypeId} {i : TypeInfo} {s b o b' o' : Nat} {B B' : Blk} {r : Bool} (hx : ev f x = .iface t (.pointer (some ⟨b, o, none⟩))) (hy : ev f y = .iface t (.pointer (some ⟨b', o', none⟩))) (hT : TyC.tk P T = .ifc) (ht : TyC.tk P t = .ptr e) (hi : P.info? t = some i) (hcmp : i.comparable = true)
    (hs : TyC.sz P e = s + 1) (hr : (b = b' ∧ r = decide (o = o')) ∨ (b ≠ b' ∧ r = false ∧ (b, B) ∈ m ++ G ∧ (b', B') ∈ m ++ G ∧ B.fr = (0, 0) ∧ B'.fr = (0, 0))) (hd : dstOk n d = true)
    (h : RO P G qs c n h0 ops Q rest (updo f d (.bool r)) m) : RO P G qs c n h0 ops Q (⟨d, .binOp .eql T x y T', tt, pos, aft, none⟩ :: rest) f m := by
  have hrun : ∀ hp w, Own h0 G m hp → At c hp w → (execOp (ev f) ⟨d, .binOp .eql T x y T', tt, pos, aft, none⟩).run P w = .ok (.value (.bool r)) w := fun hp w hw hc => by
    have he : (Op.equal T (.iface t (.pointer (some ⟨b, o, none⟩))) (.iface t (.pointer (some ⟨b', o', none⟩)))).run P w = .ok r w := by
      refine run_eqIfcPtr (B := B) (B' := B') hT ht hi hcmp hs ?_
      rcases hr with h1 | ⟨h1, h2, h3, h4, h5, h6⟩
      · exact .inl h1
      · exact .inr ⟨h1, h2, by rw [hc.1]; exact hw.has _ h3, by rw [hc.1]; exact hw.has _ h4, h5, h6⟩
    simp [execOp, hx, hy, eqGuard, binOp, he]
  exact ro_read (Nat.le_refl _) rfl hd (fun _ hp w hw hc => ⟨w, hc, .inl (hrun hp w hw hc)⟩) (fun h => by cases h) h

omit ty in
/-- The blocks are all unlike: to be leant on from a function's begin on. -/
theorem J_nodup {cd : Code} {Q : Exit → Fr → Mem → Prop} (h : ((m ++ G).map (·.1)).Nodup → J P G c n h0 cd Q f m) : J P G c n h0 cd Q f m :=
  fun a w hp r hc o => h o.nodup a w hp r hc o

end
end Go.Eng
