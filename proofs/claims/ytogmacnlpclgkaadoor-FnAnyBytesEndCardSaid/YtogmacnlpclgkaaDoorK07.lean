/-
  TEXTS MERGED: EngB, EngC, EngD.
-/
import Derived.Test.YtogmacnlpclgkaaDoorK06
import Derived.ScopeJumps
/-! AN ENGINE OF WALKS, PART 11: CALLS WITH THE TRIPLE AHEAD; blocks whose contents are spelled in another way. -/
namespace Go.Eng
open Go

inductive TakeE : Mem → Nat → Blk → Mem → Prop
  | here {b : Nat} {B B' : Blk} {m : Mem} (h : B.obj = B'.obj) : TakeE ((b, B) :: m) b B' m
  | there {b : Nat} {B : Blk} {x : Nat × Blk} {m m' : Mem} : TakeE m b B m' → TakeE (x :: m) b B (x :: m')
theorem MEqv.perm {m m' : Mem} (h : m.Perm m') : MEqv m m' := .of_perm h
theorem TakeE.eqv {m m' : Mem} {b : Nat} {B : Blk} (h : TakeE m b B m') : MEqv m ((b, B) :: m') := by
  induction h with
  | here h => exact .cons h (.refl _)
  | there _ ih => exact (MEqv.skip ih).trans (.of_perm (List.Perm.swap _ _ _))
inductive SelE : Mem → Mem → Mem → Prop
  | nil {m : Mem} : SelE m [] m
  | all {m : Mem} : SelE m m []
  | allN {m : Mem} : SelE (m ++ []) m []
  | pref {m l : Mem} : SelE (m ++ l) m l
  | suf {m l : Mem} : SelE (l ++ m) m l
  | skip {m pre fm : Mem} {x : Nat × Blk} : SelE m pre fm → SelE (x :: m) pre (x :: fm)
  | cons {m m' pre fm : Mem} {b : Nat} {B : Blk} : TakeE m b B m' → SelE m' pre fm → SelE m ((b, B) :: pre) fm
theorem SelE.eqv {m pre fm : Mem} (h : SelE m pre fm) : MEqv m (pre ++ fm) := by
  induction h with
  | nil => exact .refl _
  | all => simpa using MEqv.refl _
  | allN => exact MEqv.refl _
  | pref => exact MEqv.refl _
  | suf => exact .of_perm List.perm_append_comm
  | skip _ ih => exact (MEqv.skip ih).trans (.of_perm List.perm_middle.symm)
  | cons t _ ih => exact t.eqv.trans (.skip ih)

/-- Two functions, alike below n. -/
theorem tab_eq {n : Nat} {g g' : Nat → Value} (h : tabL n g = tabL n g') : ∀ i, i < n → g i = g' i := by
  intro i hi
  have h1 := tabL_get n g i hi
  have h2 := tabL_get n g' i hi
  rw [h] at h1
  rw [h1] at h2
  exact Option.some.inj h2
theorem obj_tab {n : Nat} {g g' : Nat → Value} {T : TypeId} {fr : Nat × Nat} (h : tabL n g = tabL n g') : (Blk.mk n g T fr).obj = (Blk.mk n g' T fr).obj := by
  unfold Blk.obj; rw [Blk.cells_congr (tab_eq h)]
theorem blk_tab {B B' : Blk} (hn : B.n = B'.n) (hT : B.T = B'.T) (hf : B.fr = B'.fr) (h : tabL B.n B.g = tabL B.n B'.g) : B.obj = B'.obj := by
  obtain ⟨n, g, T, fr⟩ := B
  obtain ⟨n', g', T', fr'⟩ := B'
  simp only at hn hT hf h
  subst hn hT hf
  exact obj_tab h
theorem obj_congr {n : Nat} {g g' : Nat → Value} {T : TypeId} {fr : Nat × Nat} (h : ∀ i, i < n → g i = g' i) : (Blk.mk n g T fr).obj = (Blk.mk n g' T fr).obj := by
  unfold Blk.obj; rw [Blk.cells_congr h]

section
variable {P : Program} [ty : TyC P] {G : Mem} {qs : List FuncId} {c : World} {n : Nat} {h0 : Base} {ops : Array Oper} {Q : Fr → Mem → Prop} {rest : List Oper} {f : Fr} {m : Mem}
variable {d : Option Tmp} {T T' tt : TypeId} {pos : String} {aft : Array Edge}

omit ty in
theorem ro_callGenE {o : Oper} {fid : FuncId} {vs : Array Value} {pre fm : Mem} {R : Value → Mem → Prop} (hcl : cls qs o.op = 2) (hg : o.guard = none) (hd : dstOk n o.dst = true)
    (hr : ∀ w, (execOp (ev f) o).run P w = .ok (.enter fid vs) w) (ht : Trip P G fid vs pre R) (hs : MEqv m (pre ++ fm))
    (hex : h0.ex = false) (hk : ∀ v m', R v m' → RO P G qs c n h0 ops Q rest (updo f o.dst v) (m' ++ fm)) : RO P G qs c n h0 ops Q (o :: rest) f m := by
  refine ro_eff hcl hg hd fun hp w hw hc a r => ?_
  have o1 := hw.eqv hs
  unfold Oper.wp
  rw [r.eval, hr w]
  refine (ht c hp w hc o1.startSub).mono ?_
  rintro e w' ⟨v, m', h', rfl, hc', o', hR⟩
  exact ⟨_, _, h', r.put hd v, hc', o1.call hex o', hk v m' hR⟩

omit ty in
theorem ro_callGenF {o : Oper} {fid : FuncId} {vs : Array Value} {pre fm : Mem} {R : Value → Mem → Prop} (hcl : cls qs o.op = 2) (hg : o.guard = none) (hd : dstOk n o.dst = true)
    (hr : ∀ w, (execOp (ev f) o).run P w = .ok (.enter fid vs) w) (ht : Trip P G fid vs pre R) (hs : MEqv m (pre ++ fm))
    (hex : h0.ex = false) (hk : ∀ v m', R v m' → RO P G qs c n h0 ops Q rest (updo f o.dst v) (fm ++ m')) : RO P G qs c n h0 ops Q (o :: rest) f m := by
  refine ro_eff hcl hg hd fun hp w hw hc a r => ?_
  have o1 := hw.eqv hs
  unfold Oper.wp
  rw [r.eval, hr w]
  refine (ht c hp w hc o1.startSub).mono ?_
  rintro e w' ⟨v, m', h', rfl, hc', o', hR⟩
  exact ⟨_, _, h', r.put hd v, hc', (o1.call hex o').eqv (.of_perm List.perm_append_comm), hk v m' hR⟩

theorem toArray_map {α β : Type} {l : List α} {g : α → β} {vs : List β} (h : l.map g = vs) : l.toArray.map g = vs.toArray := by subst h; simp

/-- A call of a named function. -/
theorem ro_callT {l : List Operand} {ats : Array TypeId} {fid : FuncId} {vs : List Value} {pre fm : Mem} {R : Value → Mem → Prop} (ht : Trip P G fid vs.toArray pre R)
    (hk : ∀ v m', R v m' → RO P G qs c n h0 ops Q rest (updo f d v) (m' ++ fm))
    (hx : l.map (ev f) = vs := by exact rfl) (hq : qs.contains fid = false := by exact rfl) (hgo : TyC.go P fid = true := by exact rfl) (hd : dstOk n d = true := by exact rfl)
    (hs : MEqv m (pre ++ fm) := by first | exact MEqv.refl _ | (apply SelE.eqv; repeat (first | exact .nil | exact .all | exact .allN | exact .pref | exact .suf | (apply SelE.cons; (first | exact .here (by first | with_reducible rfl | exact blk_tab rfl rfl rfl rfl | exact rfl) | exact .there (.here (by first | with_reducible rfl | exact blk_tab rfl rfl rfl rfl | exact rfl)) | exact .there (.there (.here (by first | with_reducible rfl | exact blk_tab rfl rfl rfl rfl | exact rfl))) | exact .there (.there (.there (.here (by first | with_reducible rfl | exact blk_tab rfl rfl rfl rfl | exact rfl)))) | exact .there (.there (.there (.there (.here (by first | with_reducible rfl | exact blk_tab rfl rfl rfl rfl | exact rfl))))) | exact .there (.there (.there (.there (.there (.here (by first | with_reducible rfl | exact blk_tab rfl rfl rfl rfl | exact rfl)))))) | exact .there (.there (.there (.there (.there (.there (.here (by first | with_reducible rfl | exact blk_tab rfl rfl rfl rfl | exact rfl))))))) | exact .there (.there (.there (.there (.there (.there (.there (.here (by first | with_reducible rfl | exact blk_tab rfl rfl rfl rfl | exact rfl)))))))) | exact .there (.there (.there (.there (.there (.there (.there (.there (.here (by first | with_reducible rfl | exact blk_tab rfl rfl rfl rfl | exact rfl))))))))))) | apply SelE.skip)))
    (hex : h0.ex = false := by with_reducible assumption) :
    RO P G qs c n h0 ops Q (⟨d, .call ⟨.value (.func fid), l.toArray, ats⟩, tt, pos, aft, none⟩ :: rest) f m :=
  ro_callGenE (by unfold cls; simp only [hq]; rfl) rfl hd (fun w => by rw [run_call (f := f) (fid := fid) (first := #[]) (captured := #[]) rfl (toArray_map hx) hgo]; simp) ht hs hex hk
/-- .. what it leaves stands behind the rest. -/
theorem ro_callTF {l : List Operand} {ats : Array TypeId} {fid : FuncId} {vs : List Value} {pre fm : Mem} {R : Value → Mem → Prop} (ht : Trip P G fid vs.toArray pre R)
    (hk : ∀ v m', R v m' → RO P G qs c n h0 ops Q rest (updo f d v) (fm ++ m'))
    (hx : l.map (ev f) = vs := by exact rfl) (hq : qs.contains fid = false := by exact rfl) (hgo : TyC.go P fid = true := by exact rfl) (hd : dstOk n d = true := by exact rfl)
    (hs : MEqv m (pre ++ fm) := by first | exact MEqv.refl _ | (apply SelE.eqv; repeat (first | exact .nil | exact .all | exact .allN | exact .pref | exact .suf | (apply SelE.cons; (first | exact .here (by first | with_reducible rfl | exact blk_tab rfl rfl rfl rfl | exact rfl) | exact .there (.here (by first | with_reducible rfl | exact blk_tab rfl rfl rfl rfl | exact rfl)) | exact .there (.there (.here (by first | with_reducible rfl | exact blk_tab rfl rfl rfl rfl | exact rfl))) | exact .there (.there (.there (.here (by first | with_reducible rfl | exact blk_tab rfl rfl rfl rfl | exact rfl)))) | exact .there (.there (.there (.there (.here (by first | with_reducible rfl | exact blk_tab rfl rfl rfl rfl | exact rfl))))) | exact .there (.there (.there (.there (.there (.here (by first | with_reducible rfl | exact blk_tab rfl rfl rfl rfl | exact rfl)))))) | exact .there (.there (.there (.there (.there (.there (.here (by first | with_reducible rfl | exact blk_tab rfl rfl rfl rfl | exact rfl))))))) | exact .there (.there (.there (.there (.there (.there (.there (.here (by first | with_reducible rfl | exact blk_tab rfl rfl rfl rfl | exact rfl)))))))) | exact .there (.there (.there (.there (.there (.there (.there (.there (.here (by first | with_reducible rfl | exact blk_tab rfl rfl rfl rfl | exact rfl))))))))))) | apply SelE.skip)))
    (hex : h0.ex = false := by with_reducible assumption) :
    RO P G qs c n h0 ops Q (⟨d, .call ⟨.value (.func fid), l.toArray, ats⟩, tt, pos, aft, none⟩ :: rest) f m :=
  ro_callGenF (by unfold cls; simp only [hq]; rfl) rfl hd (fun w => by rw [run_call (f := f) (fid := fid) (first := #[]) (captured := #[]) rfl (toArray_map hx) hgo]; simp) ht hs hex hk
theorem ro_callQT {l : List Operand} {ats : Array TypeId} {fid : FuncId} {vs : List Value} {v : Value} (ht : Quiet P G fid vs.toArray m v)
    (hk : RO P G qs c n h0 ops Q rest (updo f d v) m)
    (hx : l.map (ev f) = vs := by exact rfl) (hq : qs.contains fid = true := by exact rfl) (hgo : TyC.go P fid = true := by exact rfl) (hd : dstOk n d = true := by exact rfl) :
    RO P G qs c n h0 ops Q (⟨d, .call ⟨.value (.func fid), l.toArray, ats⟩, tt, pos, aft, none⟩ :: rest) f m := by
  refine ro_read (v := v) (by unfold cls; simp only [hq]; exact Nat.le_refl _) rfl hd (fun _ hp w hw hc => ⟨w, hc, .inr ⟨fid, vs.toArray, ?_, ?_⟩⟩) (fun h => ?_) hk
  · rw [run_call (f := f) (fid := fid) (first := #[]) (captured := #[]) rfl (toArray_map hx) hgo]; simp
  · exact ht c hp w hc (fun p hp' => hw.has p hp') hw.nodup
  · unfold cls at h; simp only [hq] at h; cases h
theorem ro_callVT {t : Nat} {l : List Operand} {ats : Array TypeId} {fid : FuncId} {first captured : List Value} {vs ws : List Value} {pre fm : Mem} {R : Value → Mem → Prop} (ht : Trip P G fid ws.toArray pre R)
    (hk : ∀ v m', R v m' → RO P G qs c n h0 ops Q rest (updo f d v) (m' ++ fm))
    (hf : f t = .func (.func fid) first.toArray captured.toArray := by exact rfl) (hx : l.map (ev f) = vs := by exact rfl) (hw : first ++ vs ++ captured = ws := by exact rfl) (hgo : TyC.go P fid = true := by exact rfl) (hd : dstOk n d = true := by exact rfl)
    (hs : MEqv m (pre ++ fm) := by first | exact MEqv.refl _ | (apply SelE.eqv; repeat (first | exact .nil | exact .all | exact .allN | exact .pref | exact .suf | (apply SelE.cons; (first | exact .here (by first | with_reducible rfl | exact blk_tab rfl rfl rfl rfl | exact rfl) | exact .there (.here (by first | with_reducible rfl | exact blk_tab rfl rfl rfl rfl | exact rfl)) | exact .there (.there (.here (by first | with_reducible rfl | exact blk_tab rfl rfl rfl rfl | exact rfl))) | exact .there (.there (.there (.here (by first | with_reducible rfl | exact blk_tab rfl rfl rfl rfl | exact rfl)))) | exact .there (.there (.there (.there (.here (by first | with_reducible rfl | exact blk_tab rfl rfl rfl rfl | exact rfl))))) | exact .there (.there (.there (.there (.there (.here (by first | with_reducible rfl | exact blk_tab rfl rfl rfl rfl | exact rfl)))))) | exact .there (.there (.there (.there (.there (.there (.here (by first | with_reducible rfl | exact blk_tab rfl rfl rfl rfl | exact rfl))))))) | exact .there (.there (.there (.there (.there (.there (.there (.here (by first | with_reducible rfl | exact blk_tab rfl rfl rfl rfl | exact rfl)))))))) | exact .there (.there (.there (.there (.there (.there (.there (.there (.here (by first | with_reducible rfl | exact blk_tab rfl rfl rfl rfl | exact rfl))))))))))) | apply SelE.skip)))
    (hex : h0.ex = false := by with_reducible assumption) :
    RO P G qs c n h0 ops Q (⟨d, .call ⟨.value (.tmp t), l.toArray, ats⟩, tt, pos, aft, none⟩ :: rest) f m := by
  refine ro_callGenE rfl rfl hd (fun w => ?_) ht hs hex hk
  rw [run_call (f := f) (x := .tmp t) (fid := fid) hf (toArray_map hx) hgo w, ← hw]
  simp
omit ty in
/-- A call through an interface value. -/
theorem ro_invokeT {x : Operand} {mt : String} {l : List Operand} {ats : Array TypeId} {fid : FuncId} {rv : Value} {us vs : List Value} {pre fm : Mem} {R : Value → Mem → Prop}
    (ht : Trip P G fid vs.toArray pre R) (hr : ∀ us : List Value, ∀ w, (callMethod rv mt us.toArray).run P w = .ok (.enter fid ((vs.take 1) ++ us).toArray) w)
    (hk : ∀ v m', R v m' → RO P G qs c n h0 ops Q rest (updo f d v) (m' ++ fm))
    (hf : ev f x = rv := by exact rfl) (hx : l.map (ev f) = us := by exact rfl) (hw : vs.take 1 ++ us = vs := by exact rfl) (hd : dstOk n d = true := by exact rfl)
    (hs : MEqv m (pre ++ fm) := by first | exact MEqv.refl _ | (apply SelE.eqv; repeat (first | exact .nil | exact .all | exact .allN | exact .pref | exact .suf | (apply SelE.cons; (first | exact .here (by first | with_reducible rfl | exact blk_tab rfl rfl rfl rfl | exact rfl) | exact .there (.here (by first | with_reducible rfl | exact blk_tab rfl rfl rfl rfl | exact rfl)) | exact .there (.there (.here (by first | with_reducible rfl | exact blk_tab rfl rfl rfl rfl | exact rfl))) | exact .there (.there (.there (.here (by first | with_reducible rfl | exact blk_tab rfl rfl rfl rfl | exact rfl)))) | exact .there (.there (.there (.there (.here (by first | with_reducible rfl | exact blk_tab rfl rfl rfl rfl | exact rfl))))) | exact .there (.there (.there (.there (.there (.here (by first | with_reducible rfl | exact blk_tab rfl rfl rfl rfl | exact rfl)))))) | exact .there (.there (.there (.there (.there (.there (.here (by first | with_reducible rfl | exact blk_tab rfl rfl rfl rfl | exact rfl))))))) | exact .there (.there (.there (.there (.there (.there (.there (.here (by first | with_reducible rfl | exact blk_tab rfl rfl rfl rfl | exact rfl)))))))) | exact .there (.there (.there (.there (.there (.there (.there (.there (.here (by first | with_reducible rfl | exact blk_tab rfl rfl rfl rfl | exact rfl))))))))))) | apply SelE.skip)))
    (hex : h0.ex = false := by with_reducible assumption) :
    RO P G qs c n h0 ops Q (⟨d, .call ⟨.invoke x mt, l.toArray, ats⟩, tt, pos, aft, none⟩ :: rest) f m := by
  refine ro_callGenE rfl rfl hd (fun w => ?_) ht hs hex hk
  have h2 : (#[rv] ++ us.toArray).extract 1 (#[rv] ++ us.toArray).size = us.toArray := by
    apply Array.ext_getElem?; intro i; simp
  have h3 : (#[rv] ++ us.toArray)[0]? = some rv := by simp [Array.getElem?_append]
  simp only [execOp, resolve, hf, toArray_map hx, Sem.run_bind, Sem.run_pure, Result.andThen_ok, invoke, h2, h3]
  rw [hr us w, hw]

end
/-- The end of a function whose results are slots: what the caller hears of is sought among the blocks. -/
theorem ends_retS {P : Program} {G : Mem} {c : World} {fn : Func} {h0 : Base} {R : Value → Mem → Prop} {f : Fr} {m : Mem} (ts : List Nat) {post junk : Mem} (hR : R (retV (ts.map f)) post)
    (hres : fn.results = (ts.map ResultVar.tmp).toArray := by exact rfl) (hs : MEqv m (post ++ junk) := by first | exact MEqv.refl _ | (apply SelE.eqv; repeat (first | exact .nil | exact .all | exact .allN | exact .pref | exact .suf | (apply SelE.cons; (first | exact .here (by first | with_reducible rfl | exact blk_tab rfl rfl rfl rfl | exact rfl) | exact .there (.here (by first | with_reducible rfl | exact blk_tab rfl rfl rfl rfl | exact rfl)) | exact .there (.there (.here (by first | with_reducible rfl | exact blk_tab rfl rfl rfl rfl | exact rfl))) | exact .there (.there (.there (.here (by first | with_reducible rfl | exact blk_tab rfl rfl rfl rfl | exact rfl)))) | exact .there (.there (.there (.there (.here (by first | with_reducible rfl | exact blk_tab rfl rfl rfl rfl | exact rfl))))) | exact .there (.there (.there (.there (.there (.here (by first | with_reducible rfl | exact blk_tab rfl rfl rfl rfl | exact rfl)))))) | exact .there (.there (.there (.there (.there (.there (.here (by first | with_reducible rfl | exact blk_tab rfl rfl rfl rfl | exact rfl))))))) | exact .there (.there (.there (.there (.there (.there (.there (.here (by first | with_reducible rfl | exact blk_tab rfl rfl rfl rfl | exact rfl)))))))) | exact .there (.there (.there (.there (.there (.there (.there (.there (.here (by first | with_reducible rfl | exact blk_tab rfl rfl rfl rfl | exact rfl))))))))))) | apply SelE.skip))) :
    Ends P G c fn h0 R .ret f m := ends_ret ts hres hs hR
theorem ends_normalS {P : Program} {G : Mem} {c : World} {fn : Func} {h0 : Base} {R : Value → Mem → Prop} {f : Fr} {m : Mem} (ts : List Nat) {post junk : Mem} (hR : R (retV (ts.map f)) post)
    (hres : fn.results = (ts.map ResultVar.tmp).toArray := by exact rfl) (hs : MEqv m (post ++ junk) := by first | exact MEqv.refl _ | (apply SelE.eqv; repeat (first | exact .nil | exact .all | exact .allN | exact .pref | exact .suf | (apply SelE.cons; (first | exact .here (by first | with_reducible rfl | exact blk_tab rfl rfl rfl rfl | exact rfl) | exact .there (.here (by first | with_reducible rfl | exact blk_tab rfl rfl rfl rfl | exact rfl)) | exact .there (.there (.here (by first | with_reducible rfl | exact blk_tab rfl rfl rfl rfl | exact rfl))) | exact .there (.there (.there (.here (by first | with_reducible rfl | exact blk_tab rfl rfl rfl rfl | exact rfl)))) | exact .there (.there (.there (.there (.here (by first | with_reducible rfl | exact blk_tab rfl rfl rfl rfl | exact rfl))))) | exact .there (.there (.there (.there (.there (.here (by first | with_reducible rfl | exact blk_tab rfl rfl rfl rfl | exact rfl)))))) | exact .there (.there (.there (.there (.there (.there (.here (by first | with_reducible rfl | exact blk_tab rfl rfl rfl rfl | exact rfl))))))) | exact .there (.there (.there (.there (.there (.there (.there (.here (by first | with_reducible rfl | exact blk_tab rfl rfl rfl rfl | exact rfl)))))))) | exact .there (.there (.there (.there (.there (.there (.there (.there (.here (by first | with_reducible rfl | exact blk_tab rfl rfl rfl rfl | exact rfl))))))))))) | apply SelE.skip))) :
    Ends P G c fn h0 R .normal f m := ends_normal ts hres hs hR

end Go.Eng

/-! AN ENGINE OF WALKS, PART 12: scopes with a label; slices written out; clear; methods of interface values; results in cells. -/
namespace Go.Eng
open Go

section
variable {P : Program} {G : Mem} {c : World} {n : Nat} {h0 : Base} {Q : Exit → Fr → Mem → Prop} {f : Fr} {m : Mem}

def jumpQ (l : Nat) (K : Fr → Mem → Prop) (Q : Exit → Fr → Mem → Prop) : Exit → Fr → Mem → Prop
  | .goto l', f, m => l' = l ∧ K f m
  | e, f, m => Q e f m

/-- A scope whose code begins with label l: I holds whenever what is behind it begins. -/
theorem J_scope {rest : Code} (l : Nat) (I : Nat → Fr → Mem → Prop) {k0 : Nat} (hI : I k0 f m)
    (pass : ∀ k f m, I k f m → J P G c n h0 rest (jumpQ l (fun f' m' => ∃ k', k' < k ∧ I k' f' m') Q) f m) : J P G c n h0 (.scope (.seq (.label l) rest)) Q f m := by
  intro a w hp r hc o b k cs
  let C := Code.seq (.label l) rest
  have hg : gotoIn l (.inScope C :: k) = some (.code (.seq .skip rest) :: .inScope C :: k) := by simp [gotoIn, C, findLabel]
  have key : ∀ K, ∀ f m a w hp, Rep n a f → At c hp w → Own h0 G m hp → I K f m →
      ∃ e a' w', liftQ G c n h0 Q e a' w' ∧ Arrives P (lone (b.at a (.code rest :: .inScope C :: k)) cs w) b k cs e a' w' := by
    intro K
    induction K using Nat.strongRecOn with
    | _ K ih =>
      intro f m a w hp r hc o hI
      obtain ⟨e, a₁, w₁, ⟨f', m', h', r', hc', o', q⟩, harr⟩ := pass K f m hI a w hp r hc o b (.inScope C :: k) cs
      cases e with
      | normal => exact ⟨.normal, a₁, w₁, ⟨f', m', h', r', hc', o', q⟩, Steps.trans harr (.one step_inScope)⟩
      | exit id => exact ⟨.exit id, a₁, w₁, ⟨f', m', h', r', hc', o', q⟩, fun k' hk => harr k' (by simp [exitTo, hk])⟩
      | goto l' =>
        obtain ⟨rfl, K', hlt, hI'⟩ := q
        obtain ⟨e₂, a₂, w₂, hq₂, harr₂⟩ := ih K' hlt f' m' a₁ w₁ h' r' hc' o' hI'
        have hsk : Steps P (lone (b.at a₁ (.code (.seq .skip rest) :: .inScope C :: k)) cs w₁) (lone (b.at a₁ (.code rest :: .inScope C :: k)) cs w₁) :=
          .head step_seq (.one step_skip)
        exact ⟨e₂, a₂, w₂, hq₂, .of_steps (Steps.trans (harr _ hg) hsk) harr₂⟩
      | ret => exact ⟨_, a₁, w₁, ⟨f', m', h', r', hc', o', q⟩, harr⟩
      | panic ch => exact ⟨_, a₁, w₁, ⟨f', m', h', r', hc', o', q⟩, harr⟩
      | outgrown => exact ⟨_, a₁, w₁, ⟨f', m', h', r', hc', o', q⟩, harr⟩
  obtain ⟨e₂, a₂, w₂, hq₂, harr₂⟩ := key k0 f m a w hp r hc o hI
  exact ⟨e₂, a₂, w₂, hq₂, .of_steps (.head step_scope (.head step_seq (.one step_label))) harr₂⟩

/-- .. with a state: its slots, its blocks, what holds of it, its measure. -/
theorem J_scopeS {σ : Type} {rest : Code} (l : Nat) (slots : σ → List (Nat × Value)) (mem : σ → Mem) (inv : σ → Prop) (meas : σ → Nat) (s0 : σ) (hf : slotsOk f (slots s0)) (hm : MEqv m (mem s0)) (hi : inv s0)
    (pass : ∀ s f, inv s → J P G c n h0 rest (jumpQ l (fun f' m' => ∃ s', meas s' < meas s ∧ inv s' ∧ slotsOk f' (slots s') ∧ MEqv m' (mem s')) Q) (setL f (slots s)) (mem s)) :
    J P G c n h0 (.scope (.seq (.label l) rest)) Q f m := by
  refine J_scope l (fun k f m => ∃ s, k = meas s ∧ inv s ∧ slotsOk f (slots s) ∧ MEqv m (mem s)) (k0 := meas s0) ⟨s0, rfl, hi, hf, hm⟩ ?_
  rintro k f m ⟨s, rfl, hi, hs, hm⟩
  have h1 := pass s f hi
  rw [setL_of hs] at h1
  refine J_eqv hm (J_mono h1 ?_)
  intro e f' m' h
  cases e <;> first | exact h | skip
  obtain ⟨rfl, s', h1, h2, h3, h4⟩ := h
  exact ⟨rfl, meas s', h1, s', rfl, h2, h3, h4⟩

end
end Go.Eng

/-! AN ENGINE OF WALKS, PART 13: slices written out; clear; methods of interface values; type assertions; results in cells; comparisons that are settled. -/
namespace Go.Eng
open Go

section
variable {P : Program} [ty : TyC P] {G : Mem} {qs : List FuncId} {c : World} {n : Nat} {h0 : Base} {ops : Array Oper} {Q : Fr → Mem → Prop} {rest : List Oper} {f : Fr} {m : Mem}
variable {d : Option Tmp} {T T' tt : TypeId} {pos : String} {aft : Array Edge}

theorem ro_buildSlice1 {l : List (Nat × Operand)} {len e : Nat} {z : Value} {vs : List Value} (hT : TyC.tk P T = .sl e) (hs : TyC.sz P e = 1) (hz : zeroL P e = some [z]) (hlen : Nat.ble len 16777216 = true)
    (hall : (evParts f l).all (fun p => Nat.blt p.1 len && one1 p.2) = true) (hvs : setAll (List.replicate len z) (evParts f l) = vs) (hd : dstOk n d = true) (hex : h0.ex = false)
    (h : ∀ b, h0.h.size ≤ b → RO P G qs c n h0 ops Q rest (updo f d (.slice (some ⟨b, 0, none⟩) len len)) ((b, listB vs e) :: m)) :
    RO P G qs c n h0 ops Q (⟨d, .buildSlice T len l.toArray, tt, pos, aft, none⟩ :: rest) f m := by
  refine ro_effA rfl rfl hd fun hp w hw hc a r => ?_
  unfold zeroL at hz
  simp only [Option.bind_eq_some_iff, Option.map_eq_some_iff] at hz
  obtain ⟨i, hi, zz, hz, hzc⟩ := hz
  have hzc' : zz.cells = #[z] := by
    rw [← Array.toList_inj]; exact hzc
  have hsz := hw.size
  have hlen' : len ≤ 16777216 := Nat.le_of_ble_eq_true hlen
  have hfill := fill_flat (fun i => some (i * 1, 1)) len (fun i hi => by simp) (evParts f l) (List.replicate len z) (by simp) (fun p hp => by
    have := List.all_eq_true.1 hall p hp
    simp only [Bool.and_eq_true] at this
    exact ⟨by simpa [Nat.blt_eq] using this.1, this.2⟩)
  rw [hvs] at hfill
  refine upon_val_ok (w' := { w with heap := w.heap.push (listB vs e).obj }) (v := .slice (some ⟨w.heap.size, 0, none⟩) len len) ?_
    ⟨_, _, _, r.put hd _, ⟨rfl, hc.2⟩, ?_, by rw [hc.1]; exact Ext.push hex _ _, h w.heap.size (by rw [hc.1]; exact hsz)⟩
  · rw [r.eval, listB_obj]
    have he := evParts_eq f l
    have hrun : (Instr.buildSlice T len (l.toArray.map fun (i, x) => (i, ev f x))).run P w = .ok (.slice (some ⟨w.heap.size, 0, none⟩) len len) { w with heap := w.heap.push (.cells vs.toArray e) } := by
      rw [he]
      simp only [Instr.buildSlice, Sem.run_bind, run_underlying (u_sl hT), Result.andThen_ok, run_sizeOf hs (by omega)]
      have h1 : ¬ (len * 1 > 2 ^ 24) := by omega
      simp only [h1, if_false]
      have hcells : (Array.map (fun x => (if len = 0 then #[] else #[z])[x % (if len = 0 then #[] else #[z]).size]!) (Array.range (len * 1))) = (List.replicate len z).toArray := by
        apply Array.ext_getElem?
        intro j
        by_cases h2 : len = 0
        · subst h2; simp
        · simp only [h2, if_false]
          by_cases hj : j < len
          · simp [hj, Nat.mod_one]
          · simp [hj]
      by_cases h2 : len = 0
      · subst h2
        simp only [if_true] at hcells
        simp only [Nat.zero_mul, if_true, Sem.run_bind, Sem.run_pure, Result.andThen_ok]
        simp only [Nat.zero_mul] at hcells
        rw [hcells, hfill]
        simp [newRow]
      · have h3 : ¬ (len * 1 = 0) := by omega
        simp only [h2, if_false] at hcells
        simp only [h3, if_false, Sem.run_bind, zeroValue, typeInfo, run_program, hi, hz, Result.andThen_ok, Sem.run_pure, hzc', hcells]
        rw [hfill]
        simp [newRow]
    simp only [execOp, Sem.run_bind, hrun, Result.andThen_ok, Sem.run_pure]
  · rw [hc.1]; exact hw.push hex _

theorem ro_clear1 {x : Operand} {ats : Array TypeId} {b o len cap e : Nat} {B : Blk} {z : Value} {m' : Mem} (hx : ev f x = .slice (some ⟨b, o, none⟩) len cap) (ha : ats[0]? = some T) (hT : TyC.tk P T = .sl e) (hs : TyC.sz P e = 1) (hz : zeroL P e = some [z]) (hz1 : one1 z = true)
    (hm : Put m b B ⟨B.n, blit B.g o len (fun _ => z), B.T, B.fr⟩ m') (hf : B.fr = (0, 0)) (ho : o + len ≤ B.n) (hex : h0.ex = false) (hd : dstOk n d = true)
    (h : RO P G qs c n h0 ops Q rest (updo f d (.tuple #[])) m') :
    RO P G qs c n h0 ops Q (⟨d, .call ⟨.builtin .clear, #[x], ats⟩, tt, pos, aft, none⟩ :: rest) f m := by
  refine ro_eff rfl rfl hd fun hp w hw hc a r => ?_
  unfold zeroL at hz
  simp only [Option.bind_eq_some_iff, Option.map_eq_some_iff] at hz
  obtain ⟨i, hi, zz, hz, hzc⟩ := hz
  have hzc' : zz.cells = #[z] := by rw [← Array.toList_inj]; exact hzc
  have hb : w.heap[b]? = some B.obj := by rw [hc.1]; exact hw.has _ (List.mem_append.2 (.inl hm.mem))
  have hc' : At c w.heap w := ⟨rfl, hc.2⟩
  have hzs : (Builtin.zeroCells #[z] len).toList = List.replicate len z := by
    apply List.ext_getElem?
    intro j
    by_cases hj : j < len
    · simp [Builtin.zeroCells, hj, Nat.mod_one]
    · simp [Builtin.zeroCells, hj]
  obtain ⟨w', hr, hc2, t⟩ := run_storeCells_blk (P := P) (List.replicate len z) 0 (o := o) hb hf (by simp; omega) (fun v hv => by rw [List.eq_of_mem_replicate hv]; exact hz1) hc'
  by_cases h0' : len = 0
  · subst h0'
    refine upon_val_ok (v := .tuple #[]) (w' := w) ?_ ⟨_, _, w.heap, r.put hd _, hc', ?_, h⟩
    · rw [r.eval]
      simp [execOp, resolve, invoke, builtin, Builtin.clear_, hx, ha, run_underlying (u_sl hT)]
    · rw [hc.1]
      refine hw.turned hex hm ?_
      rw [blit_zero]
      rw [hc.1] at hb
      exact .refl hb
  · refine upon_val_ok (v := .tuple #[]) (w' := w') ?_ ⟨_, _, w'.heap, r.put hd _, hc2, ?_, h⟩
    · rw [r.eval]
      obtain ⟨k, rfl⟩ : ∃ k, len = k + 1 := ⟨len - 1, by omega⟩
      simp only [execOp, resolve, Sem.run_bind, Sem.run_pure, Result.andThen_ok, invoke, builtin, Builtin.clear_]
      rw [show (#[x].map (ev f)) = #[ev f x] by simp, hx]
      simp [ha, run_underlying (u_sl hT), zeroValue, typeInfo, hi, hz, hzc', hzs, hr]
    · rw [hc.1] at t
      refine hw.turned hex hm (t.congr ?_)
      unfold Blk.obj
      congr 1
      apply Blk.cells_congr
      intro j hj
      simp only [List.length_replicate]
      change blit B.g (o + 0) len (listG (List.replicate len z)) j = blit B.g o len (fun _ => z) j
      by_cases h1 : o ≤ j ∧ j < o + len
      · rw [blit_in _ _ _ _ _ (by omega) (by omega), blit_in _ _ _ _ _ (by omega) (by omega)]
        simp [listG, show j - o < len by omega]
      · rw [blit_out _ _ _ _ _ (by omega), blit_out _ _ _ _ _ (by omega)]

/-! Methods -/
/-- The method of a pointer's type, by name, where it is the pointer's own. -/
def mthd (P : Program) (t : TypeId) (name : String) : Option FuncId :=
  (P.info? t).bind fun i => (i.methods.find? (·.name == name)).bind fun m => match m.path.toList, m.func with
    | [], some (fid, true) => some fid
    | _, _ => none
theorem mthd_run {t e : TypeId} {name : String} {fid : FuncId} (hm : mthd P t name = some fid) (ht : TyC.tk P t = .ptr e) (w : World) (k : Nat) (v : Value) :
    (method (k + 1) t v name).run P w = .ok (fid, v) w ∧ (nilAhead (k + 1) t v name).run P w = .ok (some false) w := by
  unfold mthd at hm
  simp only [Option.bind_eq_some_iff] at hm
  obtain ⟨i, hi, mm, hmm, h⟩ := hm
  split at h
  · rename_i hp hf
    cases h
    constructor
    · simp [method, typeInfo, hi, hmm, hp, hf, follow, receiverAt, run_underlying (u_ptr ht), Place.get]
    · simp [nilAhead, typeInfo, hi, hmm, hp, hf, followBlind]
  · cases h
theorem callMethod_run {t e : TypeId} {name : String} {fid : FuncId} {v : Value} (hm : mthd P t name = some fid) (ht : TyC.tk P t = .ptr e) (hgo : TyC.go P fid = true) (us : List Value) (w : World) :
    (callMethod (.iface t v) name us.toArray).run P w = .ok (.enter fid (v :: us).toArray) w := by
  have h1 := (mthd_run (v := v) hm ht w (P.types.size + Made.depth - 1) ).1
  have h2 : P.types.size + Made.depth - 1 + 1 = P.types.size + Made.depth := by
    have : 0 < Made.depth := by decide
    omega
  rw [h2] at h1
  simp [callMethod, h1, run_callFunc hgo]

omit ty in
/-- A method's value and the test that it is one. -/
theorem ro_makeMethod {x : Operand} {v : Value} {name : String} (hx : ev f x = v) (hd : dstOk n d = true) (h : RO P G qs c n h0 ops Q rest (updo f d (.func (.method name) #[v] #[])) m) :
    RO P G qs c n h0 ops Q (⟨d, .makeFunc (.method name) #[x] #[], tt, pos, aft, none⟩ :: rest) f m :=
  ro_pure rfl rfl hd (fun w => by simp [execOp, hx, Instr.makeFunc]) h
theorem ro_nilCheckM {x : Operand} {name : String} {t e : TypeId} {v : Value} {fid : FuncId} (hm : mthd P t name = some fid) (hx : ev f x = .func (.method name) #[.iface t v] #[]) (ht : TyC.tk P t = .ptr e) (hd : dstOk n d = true)
    (h : RO P G qs c n h0 ops Q rest (updo f d (.func (.method name) #[.iface t v] #[])) m) :
    RO P G qs c n h0 ops Q (⟨d, .nilCheck x, tt, pos, aft, none⟩ :: rest) f m := by
  refine ro_pure rfl rfl hd (fun w => ?_) h
  have h1 := (mthd_run (v := v) hm ht w (P.types.size + Made.depth - 1) ).2
  have h2 : P.types.size + Made.depth - 1 + 1 = P.types.size + Made.depth := by
    have : 0 < Made.depth := by decide
    omega
  rw [h2] at h1
  simp [execOp, hx, h1]
/-- A call of a method through an interface value. -/
theorem ro_callI {x : Operand} {mt : String} {l : List Operand} {ats : Array TypeId} {t e : TypeId} {fid : FuncId} {rv : Value} {us : List Value} {pre fm : Mem} {R : Value → Mem → Prop}
    (hm : mthd P t mt = some fid) (ht : TyC.tk P t = .ptr e) (hgo : TyC.go P fid = true) (hT : Trip P G fid (rv :: us).toArray pre R)
    (hk : ∀ v m', R v m' → RO P G qs c n h0 ops Q rest (updo f d v) (m' ++ fm))
    (hf : ev f x = .iface t rv := by exact rfl) (hx : l.map (ev f) = us := by exact rfl) (hd : dstOk n d = true := by exact rfl)
    (hs : MEqv m (pre ++ fm) := by first | exact MEqv.refl _ | (apply SelE.eqv; repeat (first | exact .nil | exact .all | exact .allN | exact .pref | exact .suf | (apply SelE.cons; (first | exact .here (by first | with_reducible rfl | exact blk_tab rfl rfl rfl rfl | exact rfl) | exact .there (.here (by first | with_reducible rfl | exact blk_tab rfl rfl rfl rfl | exact rfl)) | exact .there (.there (.here (by first | with_reducible rfl | exact blk_tab rfl rfl rfl rfl | exact rfl))) | exact .there (.there (.there (.here (by first | with_reducible rfl | exact blk_tab rfl rfl rfl rfl | exact rfl)))) | exact .there (.there (.there (.there (.here (by first | with_reducible rfl | exact blk_tab rfl rfl rfl rfl | exact rfl))))) | exact .there (.there (.there (.there (.there (.here (by first | with_reducible rfl | exact blk_tab rfl rfl rfl rfl | exact rfl)))))) | exact .there (.there (.there (.there (.there (.there (.here (by first | with_reducible rfl | exact blk_tab rfl rfl rfl rfl | exact rfl))))))) | exact .there (.there (.there (.there (.there (.there (.there (.here (by first | with_reducible rfl | exact blk_tab rfl rfl rfl rfl | exact rfl)))))))) | exact .there (.there (.there (.there (.there (.there (.there (.there (.here (by first | with_reducible rfl | exact blk_tab rfl rfl rfl rfl | exact rfl))))))))))) | apply SelE.skip)))
    (hex : h0.ex = false := by with_reducible assumption) :
    RO P G qs c n h0 ops Q (⟨d, .call ⟨.invoke x mt, l.toArray, ats⟩, tt, pos, aft, none⟩ :: rest) f m := by
  refine ro_callGenE rfl rfl hd (fun w => ?_) hT hs hex hk
  have h2 : (#[(Value.iface t rv)] ++ us.toArray).extract 1 (#[(Value.iface t rv)] ++ us.toArray).size = us.toArray := by
    apply Array.ext_getElem?; intro i; simp
  have h3 : (#[(Value.iface t rv)] ++ us.toArray)[0]? = some (.iface t rv) := by simp
  simp only [execOp, resolve, hf, toArray_map hx, Sem.run_bind, Sem.run_pure, Result.andThen_ok, invoke, h2, h3]
  exact callMethod_run hm ht hgo us w

/-! Type assertions to an interface -/
def taOk (P : Program) (A t : TypeId) : Option Bool := match P.underlying A with
  | some (.interface want) => (P.info? t).map fun i => (want.toList.filter fun x => !i.methods.any fun m => m.name == x.1 && m.sig == x.2).isEmpty
  | _ => none
omit ty in
theorem missing_aux (p : String → Bool) (g : String → String) (a : String) (l : List String) : (Instr.least ((a :: l).filter (not ∘ p)) <|> Instr.least (((a :: l).filter p).map g)).isNone = false := by
  by_cases hc : p a = true
  · rw [List.filter_cons_of_pos (p := p) hc]
    simp only [List.map_cons]
    cases Instr.least (List.filter (not ∘ p) (a :: l)) <;> rfl
  · rw [List.filter_cons_of_pos (p := not ∘ p) (by simpa using hc)]
    rfl
omit ty in
theorem missing_none (want : Array (String × TypeId)) (got : Array Method) : (Instr.missingMethod want got).isNone = (want.toList.filter fun x => !got.any fun m => m.name == x.1 && m.sig == x.2).isEmpty := by
  have hl : ∀ l : List String, (Instr.least l).isNone = l.isEmpty := fun l => by cases l <;> rfl
  unfold Instr.missingMethod
  simp only
  generalize hf : (want.toList.filter fun x => !got.any fun m => m.name == x.1 && m.sig == x.2) = l
  cases l with
  | nil => rfl
  | cons x xs =>
    simp only [List.map_cons, List.partition_eq_filter_filter, List.isEmpty_cons]
    exact missing_aux _ _ _ _
omit ty in
theorem ro_taI {x : Operand} {X A t : TypeId} {v : Value} {b : Bool} (hx : ev f x = .iface t v) (ht : taOk P A t = some b) (hz : (P.info? A).bind (·.zero) = some .nilIface) (hd : dstOk n d = true)
    (h : RO P G qs c n h0 ops Q rest (updo f d (.tuple #[if b then .iface t v else .nilIface, .bool b])) m) :
    RO P G qs c n h0 ops Q (⟨d, .typeAssert x X A true, tt, pos, aft, none⟩ :: rest) f m := by
  refine ro_pure rfl rfl hd (fun w => ?_) h
  unfold taOk at ht
  split at ht
  · rename_i want hu
    simp only [Option.map_eq_some_iff, Option.bind_eq_some_iff] at ht hz
    obtain ⟨i, hi, hb⟩ := ht
    rw [← missing_none] at hb
    obtain ⟨j, hj, hjz⟩ := hz
    simp only [execOp, hx, Instr.typeAssert, Sem.run_bind, run_underlying hu, Result.andThen_ok, typeInfo, hi, run_program, Sem.run_pure]
    cases hmm : Instr.missingMethod want i.methods with
    | none =>
      rw [hmm] at hb
      simp only [Option.isNone_none] at hb
      subst hb
      simp
    | some s =>
      rw [hmm] at hb
      simp only [Option.isNone_some] at hb
      subst hb
      simp [zeroValue, typeInfo, hj, hjz]
  · cases ht

/-! Comparisons -/
omit ty in
theorem ro_eqBool {x y : Operand} {a b : Bool} (hx : ev f x = .bool a) (hy : ev f y = .bool b) (hT : P.underlying T = some .bool) (hd : dstOk n d = true)
    (h : RO P G qs c n h0 ops Q rest (updo f d (.bool (a == b))) m) : RO P G qs c n h0 ops Q (⟨d, .binOp .eql T x y T', tt, pos, aft, none⟩ :: rest) f m := by
  refine ro_read (Nat.le_refl _) rfl hd (fun _ hp w hw hc => ⟨w, hc, .inl ?_⟩) (fun h => by cases h) h
  have : (Op.equal T (.bool a) (.bool b)).run P w = .ok (a == b) w := run_equal_of fun k => by simp [Op.equalIn, run_underlying hT]
  simp [execOp, hx, hy, eqGuard, binOp, this]

end
end Go.Eng
