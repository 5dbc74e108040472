/-
  AN ENGINE OF WALKS, PART 11: CALLS WITH THE TRIPLE AHEAD; blocks whose contents are spelled in another way.
-/
import Derived.Test.YtogmacnlpclgkaaDoorEngA
namespace Go.Eng
open Go

inductive TakeE : Mem → Nat → Blk → Mem → Prop
  | here {b : Nat} {B B' : Blk} {m : Mem} (h : B.obj = B'.obj) : TakeE ((b, B) :: m) b B' m
  | there {b : Nat} {B : Blk} {x : Nat × Blk} {m m' : Mem} : TakeE m b B m' → TakeE (x :: m) b B (x :: m')
theorem MEqv.perm {m m' : Mem} (h : m.Perm m') : MEqv m m' := .of_perm h
theorem TakeE.eqv {m m' : Mem} {b : Nat} {B : Blk} (h : TakeE m b B m') : MEqv m ((b, B) :: m') := by
  induction h with
  | here h => exact .cons h (.refl _)
  | there _ ih => exact (MEqv.skip ih).trans (.of_perm (List.Perm.swap _ _ _))
inductive SelE : Mem → Mem → Mem → Prop
  | nil {m : Mem} : SelE m [] m
  | all {m : Mem} : SelE m m []
  | allN {m : Mem} : SelE (m ++ []) m []
  | pref {m l : Mem} : SelE (m ++ l) m l
  | suf {m l : Mem} : SelE (l ++ m) m l
  | skip {m pre fm : Mem} {x : Nat × Blk} : SelE m pre fm → SelE (x :: m) pre (x :: fm)
  | cons {m m' pre fm : Mem} {b : Nat} {B : Blk} : TakeE m b B m' → SelE m' pre fm → SelE m ((b, B) :: pre) fm
theorem SelE.eqv {m pre fm : Mem} (h : SelE m pre fm) : MEqv m (pre ++ fm) := by
  induction h with
  | nil => exact .refl _
  | all => simpa using MEqv.refl _
  | allN => exact MEqv.refl _
  | pref => exact MEqv.refl _
  | suf => exact .of_perm List.perm_append_comm
  | skip _ ih => exact (MEqv.skip ih).trans (.of_perm List.perm_middle.symm)
  | cons t _ ih => exact t.eqv.trans (.skip ih)

/-- Two functions, alike below n. -/
theorem tab_eq {n : Nat} {g g' : Nat → Value} (h : tabL n g = tabL n g') : ∀ i, i < n → g i = g' i := by
  intro i hi
  have h1 := tabL_get n g i hi
  have h2 := tabL_get n g' i hi
  rw [h] at h1
  rw [h1] at h2
  exact Option.some.inj h2
theorem obj_tab {n : Nat} {g g' : Nat → Value} {T : TypeId} {fr : Nat × Nat} (h : tabL n g = tabL n g') : (Blk.mk n g T fr).obj = (Blk.mk n g' T fr).obj := by
  unfold Blk.obj; rw [Blk.cells_congr (tab_eq h)]
theorem blk_tab {B B' : Blk} (hn : B.n = B'.n) (hT : B.T = B'.T) (hf : B.fr = B'.fr) (h : tabL B.n B.g = tabL B.n B'.g) : B.obj = B'.obj := by
  obtain ⟨n, g, T, fr⟩ := B
  obtain ⟨n', g', T', fr'⟩ := B'
  simp only at hn hT hf h
  subst hn hT hf
  exact obj_tab h
theorem obj_congr {n : Nat} {g g' : Nat → Value} {T : TypeId} {fr : Nat × Nat} (h : ∀ i, i < n → g i = g' i) : (Blk.mk n g T fr).obj = (Blk.mk n g' T fr).obj := by
  unfold Blk.obj; rw [Blk.cells_congr h]

section
variable {P : Program} [ty : TyC P] {G : Mem} {qs : List FuncId} {c : World} {n : Nat} {h0 : Base} {ops : Array Oper} {Q : Fr → Mem → Prop} {rest : List Oper} {f : Fr} {m : Mem}
variable {d : Option Tmp} {T T' tt : TypeId} {pos : String} {aft : Array Edge}

omit ty in
theorem ro_callGenE {o : Oper} {fid : FuncId} {vs : Array Value} {pre fm : Mem} {R : Value → Mem → Prop} (hcl : cls qs o.op = 2) (hg : o.guard = none) (hd : dstOk n o.dst = true)
    (hr : ∀ w, (execOp (ev f) o).run P w = .ok (.enter fid vs) w) (ht : Trip P G fid vs pre R) (hs : MEqv m (pre ++ fm))
    (hex : h0.ex = false) (hk : ∀ v m', R v m' → RO P G qs c n h0 ops Q rest (updo f o.dst v) (m' ++ fm)) : RO P G qs c n h0 ops Q (o :: rest) f m := by
  refine ro_eff hcl hg hd fun hp w hw hc a r => ?_
  have o1 := hw.eqv hs
  unfold Oper.wp
  rw [r.eval, hr w]
  refine (ht c hp w hc o1.startSub).mono ?_
  rintro e w' ⟨v, m', h', rfl, hc', o', hR⟩
  exact ⟨_, _, h', r.put hd v, hc', o1.call hex o', hk v m' hR⟩

omit ty in
theorem ro_callGenF {o : Oper} {fid : FuncId} {vs : Array Value} {pre fm : Mem} {R : Value → Mem → Prop} (hcl : cls qs o.op = 2) (hg : o.guard = none) (hd : dstOk n o.dst = true)
    (hr : ∀ w, (execOp (ev f) o).run P w = .ok (.enter fid vs) w) (ht : Trip P G fid vs pre R) (hs : MEqv m (pre ++ fm))
    (hex : h0.ex = false) (hk : ∀ v m', R v m' → RO P G qs c n h0 ops Q rest (updo f o.dst v) (fm ++ m')) : RO P G qs c n h0 ops Q (o :: rest) f m := by
  refine ro_eff hcl hg hd fun hp w hw hc a r => ?_
  have o1 := hw.eqv hs
  unfold Oper.wp
  rw [r.eval, hr w]
  refine (ht c hp w hc o1.startSub).mono ?_
  rintro e w' ⟨v, m', h', rfl, hc', o', hR⟩
  exact ⟨_, _, h', r.put hd v, hc', (o1.call hex o').eqv (.of_perm List.perm_append_comm), hk v m' hR⟩

theorem toArray_map {α β : Type} {l : List α} {g : α → β} {vs : List β} (h : l.map g = vs) : l.toArray.map g = vs.toArray := by subst h; simp

/-- A call of a named function. -/
theorem ro_callT {l : List Operand} {ats : Array TypeId} {fid : FuncId} {vs : List Value} {pre fm : Mem} {R : Value → Mem → Prop} (ht : Trip P G fid vs.toArray pre R)
    (hk : ∀ v m', R v m' → RO P G qs c n h0 ops Q rest (updo f d v) (m' ++ fm))
    (hx : l.map (ev f) = vs := by exact rfl) (hq : qs.contains fid = false := by exact rfl) (hgo : TyC.go P fid = true := by exact rfl) (hd : dstOk n d = true := by exact rfl)
    (hs : MEqv m (pre ++ fm) := by first | exact MEqv.refl _ | (apply SelE.eqv; repeat (first | exact .nil | exact .all | exact .allN | exact .pref | exact .suf | (apply SelE.cons; (first | exact .here (by first | with_reducible rfl | exact blk_tab rfl rfl rfl rfl | exact rfl) | exact .there (.here (by first | with_reducible rfl | exact blk_tab rfl rfl rfl rfl | exact rfl)) | exact .there (.there (.here (by first | with_reducible rfl | exact blk_tab rfl rfl rfl rfl | exact rfl))) | exact .there (.there (.there (.here (by first | with_reducible rfl | exact blk_tab rfl rfl rfl rfl | exact rfl)))) | exact .there (.there (.there (.there (.here (by first | with_reducible rfl | exact blk_tab rfl rfl rfl rfl | exact rfl))))) | exact .there (.there (.there (.there (.there (.here (by first | with_reducible rfl | exact blk_tab rfl rfl rfl rfl | exact rfl)))))) | exact .there (.there (.there (.there (.there (.there (.here (by first | with_reducible rfl | exact blk_tab rfl rfl rfl rfl | exact rfl))))))) | exact .there (.there (.there (.there (.there (.there (.there (.here (by first | with_reducible rfl | exact blk_tab rfl rfl rfl rfl | exact rfl)))))))) | exact .there (.there (.there (.there (.there (.there (.there (.there (.here (by first | with_reducible rfl | exact blk_tab rfl rfl rfl rfl | exact rfl))))))))))) | apply SelE.skip)))
    (hex : h0.ex = false := by with_reducible assumption) :
    RO P G qs c n h0 ops Q (⟨d, .call ⟨.value (.func fid), l.toArray, ats⟩, tt, pos, aft, none⟩ :: rest) f m :=
  ro_callGenE (by unfold cls; simp only [hq]; rfl) rfl hd (fun w => by rw [run_call (f := f) (fid := fid) (first := #[]) (captured := #[]) rfl (toArray_map hx) hgo]; simp) ht hs hex hk
/-- .. what it leaves stands behind the rest. -/
theorem ro_callTF {l : List Operand} {ats : Array TypeId} {fid : FuncId} {vs : List Value} {pre fm : Mem} {R : Value → Mem → Prop} (ht : Trip P G fid vs.toArray pre R)
    (hk : ∀ v m', R v m' → RO P G qs c n h0 ops Q rest (updo f d v) (fm ++ m'))
    (hx : l.map (ev f) = vs := by exact rfl) (hq : qs.contains fid = false := by exact rfl) (hgo : TyC.go P fid = true := by exact rfl) (hd : dstOk n d = true := by exact rfl)
    (hs : MEqv m (pre ++ fm) := by first | exact MEqv.refl _ | (apply SelE.eqv; repeat (first | exact .nil | exact .all | exact .allN | exact .pref | exact .suf | (apply SelE.cons; (first | exact .here (by first | with_reducible rfl | exact blk_tab rfl rfl rfl rfl | exact rfl) | exact .there (.here (by first | with_reducible rfl | exact blk_tab rfl rfl rfl rfl | exact rfl)) | exact .there (.there (.here (by first | with_reducible rfl | exact blk_tab rfl rfl rfl rfl | exact rfl))) | exact .there (.there (.there (.here (by first | with_reducible rfl | exact blk_tab rfl rfl rfl rfl | exact rfl)))) | exact .there (.there (.there (.there (.here (by first | with_reducible rfl | exact blk_tab rfl rfl rfl rfl | exact rfl))))) | exact .there (.there (.there (.there (.there (.here (by first | with_reducible rfl | exact blk_tab rfl rfl rfl rfl | exact rfl)))))) | exact .there (.there (.there (.there (.there (.there (.here (by first | with_reducible rfl | exact blk_tab rfl rfl rfl rfl | exact rfl))))))) | exact .there (.there (.there (.there (.there (.there (.there (.here (by first | with_reducible rfl | exact blk_tab rfl rfl rfl rfl | exact rfl)))))))) | exact .there (.there (.there (.there (.there (.there (.there (.there (.here (by first | with_reducible rfl | exact blk_tab rfl rfl rfl rfl | exact rfl))))))))))) | apply SelE.skip)))
    (hex : h0.ex = false := by with_reducible assumption) :
    RO P G qs c n h0 ops Q (⟨d, .call ⟨.value (.func fid), l.toArray, ats⟩, tt, pos, aft, none⟩ :: rest) f m :=
  ro_callGenF (by unfold cls; simp only [hq]; rfl) rfl hd (fun w => by rw [run_call (f := f) (fid := fid) (first := #[]) (captured := #[]) rfl (toArray_map hx) hgo]; simp) ht hs hex hk
theorem ro_callQT {l : List Operand} {ats : Array TypeId} {fid : FuncId} {vs : List Value} {v : Value} (ht : Quiet P G fid vs.toArray m v)
    (hk : RO P G qs c n h0 ops Q rest (updo f d v) m)
    (hx : l.map (ev f) = vs := by exact rfl) (hq : qs.contains fid = true := by exact rfl) (hgo : TyC.go P fid = true := by exact rfl) (hd : dstOk n d = true := by exact rfl) :
    RO P G qs c n h0 ops Q (⟨d, .call ⟨.value (.func fid), l.toArray, ats⟩, tt, pos, aft, none⟩ :: rest) f m := by
  refine ro_read (v := v) (by unfold cls; simp only [hq]; exact Nat.le_refl _) rfl hd (fun _ hp w hw hc => ⟨w, hc, .inr ⟨fid, vs.toArray, ?_, ?_⟩⟩) (fun h => ?_) hk
  · rw [run_call (f := f) (fid := fid) (first := #[]) (captured := #[]) rfl (toArray_map hx) hgo]; simp
  · exact ht c hp w hc (fun p hp' => hw.has p hp') hw.nodup
  · unfold cls at h; simp only [hq] at h; cases h
theorem ro_callVT {t : Nat} {l : List Operand} {ats : Array TypeId} {fid : FuncId} {first captured : List Value} {vs ws : List Value} {pre fm : Mem} {R : Value → Mem → Prop} (ht : Trip P G fid ws.toArray pre R)
    (hk : ∀ v m', R v m' → RO P G qs c n h0 ops Q rest (updo f d v) (m' ++ fm))
    (hf : f t = .func (.func fid) first.toArray captured.toArray := by exact rfl) (hx : l.map (ev f) = vs := by exact rfl) (hw : first ++ vs ++ captured = ws := by exact rfl) (hgo : TyC.go P fid = true := by exact rfl) (hd : dstOk n d = true := by exact rfl)
    (hs : MEqv m (pre ++ fm) := by first | exact MEqv.refl _ | (apply SelE.eqv; repeat (first | exact .nil | exact .all | exact .allN | exact .pref | exact .suf | (apply SelE.cons; (first | exact .here (by first | with_reducible rfl | exact blk_tab rfl rfl rfl rfl | exact rfl) | exact .there (.here (by first | with_reducible rfl | exact blk_tab rfl rfl rfl rfl | exact rfl)) | exact .there (.there (.here (by first | with_reducible rfl | exact blk_tab rfl rfl rfl rfl | exact rfl))) | exact .there (.there (.there (.here (by first | with_reducible rfl | exact blk_tab rfl rfl rfl rfl | exact rfl)))) | exact .there (.there (.there (.there (.here (by first | with_reducible rfl | exact blk_tab rfl rfl rfl rfl | exact rfl))))) | exact .there (.there (.there (.there (.there (.here (by first | with_reducible rfl | exact blk_tab rfl rfl rfl rfl | exact rfl)))))) | exact .there (.there (.there (.there (.there (.there (.here (by first | with_reducible rfl | exact blk_tab rfl rfl rfl rfl | exact rfl))))))) | exact .there (.there (.there (.there (.there (.there (.there (.here (by first | with_reducible rfl | exact blk_tab rfl rfl rfl rfl | exact rfl)))))))) | exact .there (.there (.there (.there (.there (.there (.there (.there (.here (by first | with_reducible rfl | exact blk_tab rfl rfl rfl rfl | exact rfl))))))))))) | apply SelE.skip)))
    (hex : h0.ex = false := by with_reducible assumption) :
    RO P G qs c n h0 ops Q (⟨d, .call ⟨.value (.tmp t), l.toArray, ats⟩, tt, pos, aft, none⟩ :: rest) f m := by
  refine ro_callGenE rfl rfl hd (fun w => ?_) ht hs hex hk
  rw [run_call (f := f) (x := .tmp t) (fid := fid) hf (toArray_map hx) hgo w, ← hw]
  simp
omit ty in
/-- A call through an interface value. -/
theorem ro_invokeT {x : Operand} {mt : String} {l : List Operand} {ats : Array TypeId} {fid : FuncId} {rv : Value} {us vs : List Value} {pre fm : Mem} {R : Value → Mem → Prop}
    (ht : Trip P G fid vs.toArray pre R) (hr : ∀ us : List Value, ∀ w, (callMethod rv mt us.toArray).run P w = .ok (.enter fid ((vs.take 1) ++ us).toArray) w)
    (hk : ∀ v m', R v m' → RO P G qs c n h0 ops Q rest (updo f d v) (m' ++ fm))
    (hf : ev f x = rv := by exact rfl) (hx : l.map (ev f) = us := by exact rfl) (hw : vs.take 1 ++ us = vs := by exact rfl) (hd : dstOk n d = true := by exact rfl)
    (hs : MEqv m (pre ++ fm) := by first | exact MEqv.refl _ | (apply SelE.eqv; repeat (first | exact .nil | exact .all | exact .allN | exact .pref | exact .suf | (apply SelE.cons; (first | exact .here (by first | with_reducible rfl | exact blk_tab rfl rfl rfl rfl | exact rfl) | exact .there (.here (by first | with_reducible rfl | exact blk_tab rfl rfl rfl rfl | exact rfl)) | exact .there (.there (.here (by first | with_reducible rfl | exact blk_tab rfl rfl rfl rfl | exact rfl))) | exact .there (.there (.there (.here (by first | with_reducible rfl | exact blk_tab rfl rfl rfl rfl | exact rfl)))) | exact .there (.there (.there (.there (.here (by first | with_reducible rfl | exact blk_tab rfl rfl rfl rfl | exact rfl))))) | exact .there (.there (.there (.there (.there (.here (by first | with_reducible rfl | exact blk_tab rfl rfl rfl rfl | exact rfl)))))) | exact .there (.there (.there (.there (.there (.there (.here (by first | with_reducible rfl | exact blk_tab rfl rfl rfl rfl | exact rfl))))))) | exact .there (.there (.there (.there (.there (.there (.there (.here (by first | with_reducible rfl | exact blk_tab rfl rfl rfl rfl | exact rfl)))))))) | exact .there (.there (.there (.there (.there (.there (.there (.there (.here (by first | with_reducible rfl | exact blk_tab rfl rfl rfl rfl | exact rfl))))))))))) | apply SelE.skip)))
    (hex : h0.ex = false := by with_reducible assumption) :
    RO P G qs c n h0 ops Q (⟨d, .call ⟨.invoke x mt, l.toArray, ats⟩, tt, pos, aft, none⟩ :: rest) f m := by
  refine ro_callGenE rfl rfl hd (fun w => ?_) ht hs hex hk
  have h2 : (#[rv] ++ us.toArray).extract 1 (#[rv] ++ us.toArray).size = us.toArray := by
    apply Array.ext_getElem?; intro i; simp
  have h3 : (#[rv] ++ us.toArray)[0]? = some rv := by simp [Array.getElem?_append]
  simp only [execOp, resolve, hf, toArray_map hx, Sem.run_bind, Sem.run_pure, Result.andThen_ok, invoke, h2, h3]
  rw [hr us w, hw]

end
/-- The end of a function whose results are slots: what the caller hears of is sought among the blocks. -/
theorem ends_retS {P : Program} {G : Mem} {c : World} {fn : Func} {h0 : Base} {R : Value → Mem → Prop} {f : Fr} {m : Mem} (ts : List Nat) {post junk : Mem} (hR : R (retV (ts.map f)) post)
    (hres : fn.results = (ts.map ResultVar.tmp).toArray := by exact rfl) (hs : MEqv m (post ++ junk) := by first | exact MEqv.refl _ | (apply SelE.eqv; repeat (first | exact .nil | exact .all | exact .allN | exact .pref | exact .suf | (apply SelE.cons; (first | exact .here (by first | with_reducible rfl | exact blk_tab rfl rfl rfl rfl | exact rfl) | exact .there (.here (by first | with_reducible rfl | exact blk_tab rfl rfl rfl rfl | exact rfl)) | exact .there (.there (.here (by first | with_reducible rfl | exact blk_tab rfl rfl rfl rfl | exact rfl))) | exact .there (.there (.there (.here (by first | with_reducible rfl | exact blk_tab rfl rfl rfl rfl | exact rfl)))) | exact .there (.there (.there (.there (.here (by first | with_reducible rfl | exact blk_tab rfl rfl rfl rfl | exact rfl))))) | exact .there (.there (.there (.there (.there (.here (by first | with_reducible rfl | exact blk_tab rfl rfl rfl rfl | exact rfl)))))) | exact .there (.there (.there (.there (.there (.there (.here (by first | with_reducible rfl | exact blk_tab rfl rfl rfl rfl | exact rfl))))))) | exact .there (.there (.there (.there (.there (.there (.there (.here (by first | with_reducible rfl | exact blk_tab rfl rfl rfl rfl | exact rfl)))))))) | exact .there (.there (.there (.there (.there (.there (.there (.there (.here (by first | with_reducible rfl | exact blk_tab rfl rfl rfl rfl | exact rfl))))))))))) | apply SelE.skip))) :
    Ends P G c fn h0 R .ret f m := ends_ret ts hres hs hR
theorem ends_normalS {P : Program} {G : Mem} {c : World} {fn : Func} {h0 : Base} {R : Value → Mem → Prop} {f : Fr} {m : Mem} (ts : List Nat) {post junk : Mem} (hR : R (retV (ts.map f)) post)
    (hres : fn.results = (ts.map ResultVar.tmp).toArray := by exact rfl) (hs : MEqv m (post ++ junk) := by first | exact MEqv.refl _ | (apply SelE.eqv; repeat (first | exact .nil | exact .all | exact .allN | exact .pref | exact .suf | (apply SelE.cons; (first | exact .here (by first | with_reducible rfl | exact blk_tab rfl rfl rfl rfl | exact rfl) | exact .there (.here (by first | with_reducible rfl | exact blk_tab rfl rfl rfl rfl | exact rfl)) | exact .there (.there (.here (by first | with_reducible rfl | exact blk_tab rfl rfl rfl rfl | exact rfl))) | exact .there (.there (.there (.here (by first | with_reducible rfl | exact blk_tab rfl rfl rfl rfl | exact rfl)))) | exact .there (.there (.there (.there (.here (by first | with_reducible rfl | exact blk_tab rfl rfl rfl rfl | exact rfl))))) | exact .there (.there (.there (.there (.there (.here (by first | with_reducible rfl | exact blk_tab rfl rfl rfl rfl | exact rfl)))))) | exact .there (.there (.there (.there (.there (.there (.here (by first | with_reducible rfl | exact blk_tab rfl rfl rfl rfl | exact rfl))))))) | exact .there (.there (.there (.there (.there (.there (.there (.here (by first | with_reducible rfl | exact blk_tab rfl rfl rfl rfl | exact rfl)))))))) | exact .there (.there (.there (.there (.there (.there (.there (.there (.here (by first | with_reducible rfl | exact blk_tab rfl rfl rfl rfl | exact rfl))))))))))) | apply SelE.skip))) :
    Ends P G c fn h0 R .normal f m := ends_normal ts hres hs hR

end Go.Eng
