/-
  JOINS 2: the package-level variables as the statements lay them; a law out of its walk.
-/
import Derived.Test.YtogmacnlpclgkaaDoorJ1
import Derived.Test.YtogmacnlpclgkaaDoorTie
import Derived.ChangeCalls
namespace Go.Proofs.YtogmacnlpclgkaaDoor
open Go Go.Eng Go.ChangeShapes Go.WideShapes Go.RowKit

set_option maxRecDepth 100000
def laid4 : List (String × DataW Unit) := [("io.ErrShortBuffer", Rows.laid_io_ErrShortBuffer), ("io.EOF", Rows.laid_io_EOF), ("io.ErrUnexpectedEOF", Rows.laid_io_ErrUnexpectedEOF), ("framesunpacked/pub/zstd.fuzzing", Rows.laid_framesunpacked_pub_zstd_fuzzing)]

theorem own_knob : ownKnob Tryd.prog.godebug = none := by kernel_rfl
theorem laidOut : laidOutB Tryd.prog = true := by kernel_rfl
theorem gn_short : Tryd.prog.globalNamed "io.ErrShortBuffer" = some 3 := by kernel_rfl
theorem gn_eof : Tryd.prog.globalNamed "io.EOF" = some 0 := by kernel_rfl
theorem gn_ueof : Tryd.prog.globalNamed "io.ErrUnexpectedEOF" = some 1 := by kernel_rfl
theorem gn_fuzz : Tryd.prog.globalNamed "framesunpacked/pub/zstd.fuzzing" = some 2 := by kernel_rfl
theorem gt_short : (Tryd.prog.globals[3]?).map (·.type) = some 73 := by kernel_rfl
theorem gt_eof : (Tryd.prog.globals[0]?).map (·.type) = some 73 := by kernel_rfl
theorem gt_ueof : (Tryd.prog.globals[1]?).map (·.type) = some 73 := by kernel_rfl
theorem gt_fuzz : (Tryd.prog.globals[2]?).map (·.type) = some 4 := by kernel_rfl
theorem star : "*" ++ "errors.errorString" = "*errors.errorString" := by decide
theorem rowES (u : TypeId) (h : Tryd.prog.typeName? 3 u = some "*errors.errorString") : u = 122 :=
  typeName_ptr_named (nm := "errors.errorString") (by rw [star]; kernel_rfl) (by kernel_rfl) (by decide) u (by rw [star]; exact h)
theorem cES : Tryd.prog.cellsOf 124 = 1 := by kernel_rfl
theorem cS : Tryd.prog.cellsOf 9 = 1 := by kernel_rfl

theorem err_open {W : World} {fuel : Nat} {cs : List Value} {text : List UInt8} {p : List MemPlace}
    (h : DataW.trod (fun _ => ()) Tryd.prog W 0 (fun _ => true) false fuel 73 cs = some (.iface "*errors.errorString" (.ptr (.agg [.lit (.string text)])), p))
    (hok : ∀ u v, cs = [.iface u v] → Value.okWide Tryd.prog W .any 0 u v) :
    ∃ a s, cs = [.iface 122 (.pointer (some a))] ∧ W.cell? a = some (.string s) ∧ s.data.toList = text ∧ s.size ≤ maxLen ∧ p = MemPlace.row a 1 := by
  obtain ⟨ms, hi⟩ := u_ifc (P := Tryd.prog) (T := 73) rfl
  have hp := u_ptr (P := Tryd.prog) (T := 122) (e := 124) rfl
  obtain ⟨fl, hf, hl⟩ := u_st (P := Tryd.prog) (T := 124) (fs := [(0, 9)]) rfl
  have hs := u_string (P := Tryd.prog) (T := 9) rfl
  obtain ⟨f, rfl⟩ : ∃ f, fl = #[f] := by
    obtain ⟨l⟩ := fl
    match l, hl with
    | [f], _ => exact ⟨f, rfl⟩
  simp only [List.map_cons, List.map_nil, List.cons.injEq, Prod.mk.injEq, and_true] at hl
  exact errorString_of_trod hi rowES hp hf hl.2 hl.1 hs cES cS h hok

theorem errBlk {W : World} {b o : Nat} {s : ByteArray} (h : W.cell? ⟨b, o, none⟩ = some (.string s)) (hz : ∃ c t, W.heap[b]? = some (.cells c t (0, 0))) :
    ∃ B : Blk, (b, B) ∈ heapG W.heap ∧ B.fr = (0, 0) ∧ B.g o = .string s := by
  obtain ⟨c, t, hb⟩ := hz
  obtain ⟨cs, T, fr, hb', hlt, hv⟩ := cell_some h
  rw [hb] at hb'
  cases hb'
  exact ⟨_, heapG_mem hb, rfl, hv⟩
theorem varBlk {W : World} {n : String} {g : Nat} {x : Value} (hg : Tryd.prog.globalNamed n = some g) (hv : W.var? Tryd.prog n = some #[x]) : ∃ B : Blk, (g, B) ∈ heapG W.heap ∧ 0 < B.n ∧ B.g 0 = x := by
  have h0 : W.cell? ⟨g, 0, none⟩ = some x := by simpa using World.var?_cell hg hv 0
  obtain ⟨cs, T, fr, hb, hlt, hx⟩ := cell_some h0
  exact ⟨_, heapG_mem hb, hlt, hx⟩

set_option maxHeartbeats 1000000 in
/-- What the condition on the variables gives a walk. -/
theorem laid_sent {W : World} (h : laidMet Tryd.prog laid4 W) : ∃ (_ : Sent (heapG W.heap)) (fb : Blk), (2, fb) ∈ heapG W.heap ∧ 0 < fb.n ∧ fb.g 0 = .bool false := by
  obtain ⟨ps, ⟨g0, t0, cs0, f0, p0, q0, hg0, ht0, hv0, hd0, ⟨g1, t1, cs1, f1, p1, q1, hg1, ht1, hv1, hd1, ⟨g2, t2, cs2, f2, p2, q2, hg2, ht2, hv2, hd2, ⟨g3, t3, cs3, f3, p3, q3, hg3, ht3, hv3, hd3, hq3, e3⟩, e2⟩, e1⟩, e0⟩, hnd, hrows⟩ := h
  obtain rfl := Option.some.inj (gn_short.symm.trans hg0)
  obtain rfl := Option.some.inj (gn_eof.symm.trans hg1)
  obtain rfl := Option.some.inj (gn_ueof.symm.trans hg2)
  obtain rfl := Option.some.inj (gn_fuzz.symm.trans hg3)
  obtain rfl := Option.some.inj (gt_short.symm.trans ht0)
  obtain rfl := Option.some.inj (gt_eof.symm.trans ht1)
  obtain rfl := Option.some.inj (gt_ueof.symm.trans ht2)
  obtain rfl := Option.some.inj (gt_fuzz.symm.trans ht3)
  have hq3' : q3 = [] := hq3
  subst hq3' e3 e2 e1 e0
  obtain ⟨l1⟩ := cs1
  obtain ⟨l2⟩ := cs2
  obtain ⟨l3⟩ := cs3
  have ok1 : ∀ u v, l1 = [.iface u v] → Value.okWide Tryd.prog W .any 0 u v := fun u v e => by
    subst e
    exact (hrows 0 0 (by simp [MemPlace.row])).2 u v (by simpa using World.var?_cell hg1 hv1 0)
  have ok2 : ∀ u v, l2 = [.iface u v] → Value.okWide Tryd.prog W .any 0 u v := fun u v e => by
    subst e
    exact (hrows 1 0 (by simp [MemPlace.row])).2 u v (by simpa using World.var?_cell hg2 hv2 0)
  obtain ⟨a1, s1, rfl, hc1, hs1, hz1, rfl⟩ := err_open hd1 ok1
  obtain ⟨a2, s2, rfl, hc2, hs2, hz2, rfl⟩ := err_open hd2 ok2
  have sp1 : a1.spot = none := by
    unfold World.cell? at hc1
    split at hc1
    · cases hsp : a1.spot with
      | none => rfl
      | some k => rw [hsp] at hc1; simp at hc1
    · cases hc1
  have sp2 : a2.spot = none := by
    unfold World.cell? at hc2
    split at hc2
    · cases hsp : a2.spot with
      | none => rfl
      | some k => rw [hsp] at hc2; simp at hc2
    · cases hc2
  obtain ⟨b1, o1, _⟩ := a1
  obtain ⟨b2, o2, _⟩ := a2
  simp only at sp1 sp2
  subst sp1 sp2
  obtain ⟨E1, he1, he1f, he1g⟩ := errBlk hc1 (hrows b1 o1 (by simp [MemPlace.row])).1
  obtain ⟨U1, hu1, hu1f, hu1g⟩ := errBlk hc2 (hrows b2 o2 (by simp [MemPlace.row])).1
  obtain ⟨E0, he0, he0n, he0g⟩ := varBlk hg1 hv1
  obtain ⟨U0, hu0, hu0n, hu0g⟩ := varBlk hg2 hv2
  have hl3 : l3 = [.bool false] := by
    have hb := u_bool (P := Tryd.prog) (T := 4) rfl
    cases f3 with
    | zero => simp [DataW.trod] at hd3
    | succ k =>
      match l3, hd3 with
      | [], hd3 => simp [DataW.trod, hb] at hd3
      | _ :: _ :: _, hd3 => simp [DataW.trod, hb] at hd3
      | [v], hd3 =>
        cases v <;> simp [DataW.trod, hb, Rows.laid_framesunpacked_pub_zstd_fuzzing] at hd3
        rw [hd3.1]
  subst hl3
  obtain ⟨fb, hfb, hfn, hfv⟩ := varBlk hg3 hv3
  have hne : b2 ≠ b1 ∨ o2 ≠ o1 := by
    by_cases hbb : b2 = b1
    · right
      intro hoo
      subst hbb hoo
      rw [hc1] at hc2
      have hs : s1 = s2 := Value.string.inj (Option.some.inj hc2)
      rw [hs] at hs1
      exact absurd (hs1.symm.trans hs2) (by decide)
    · exact .inl hbb
  clear hd0 hd1 hd2 hd3 hrows hnd hc1 hc2 hs1 hs2
  have S : Sent (heapG W.heap) := { eb := b1, eo := o1, ub := b2, uo := o2, E0 := E0, E1 := E1, U0 := U0, U1 := U1, e0 := he0, e0n := he0n, e0g := he0g, e1 := he1, e1f := he1f, u0 := hu0, u0n := hu0n, u0g := hu0g, u1 := hu1, u1f := hu1f, ne := hne }
  exact ⟨S, fb, hfb, hfn, hfv⟩

/-- Arguments read behind the call as they did before. -/
theorem trodAll_below {P : Program} (hlo : laidOutB P = true) {H : Type} {enc : TypeId × Value → H} {W W' : World} (hb : Below W.heap.size W W') (ts : List TypeId) : ∀ {vs : List Value} {ds : List (DataW H)} {ps : List MemPlace},
    (∀ t ∈ ts, P.readableRec t = true ∧ t < P.types.size) → DataW.TrodAll enc P W 0 (fun _ => true) true ts vs ds ps → (∀ x ∈ ps, x.block < W.heap.size) →
    DataW.TrodAll enc P W' 0 (fun b => decide (b < W.heap.size)) true ts vs ds ps := by
  induction ts with
  | nil =>
    intro vs ds ps _ h _
    obtain ⟨rfl, rfl, rfl⟩ := trodAll_nil h
    exact trodAll_mk0
  | cons t ts ih =>
    intro vs ds ps ht h hlt
    obtain ⟨v, vs', d, ds', p, q, rfl, rfl, rfl, h1, h2⟩ := trodAll_cons h
    obtain ⟨a1, a2⟩ := ht t List.mem_cons_self
    exact trodAll_cons_mk (Below.trod hlo a1 a2 h1 hb fun x hx => hlt x (List.mem_append.2 (.inl hx))) (ih (fun t ht' => ht t (List.mem_cons_of_mem _ ht')) h2 fun x hx => hlt x (List.mem_append.2 (.inr hx)))

/-- A law, out of its walk. -/
theorem lifted_of_trip {f : FuncId} {fn : Func} {s : ChangeSpec} {laid : List (String × DataW Unit)} (os : Os) (started : os.Started) (H : Type) (enc : TypeId × Value → H)
    (hvars : s.vars = []) (hfn : Tryd.prog.funcs[f]? = some fn) (hrt : fn.resultTypes = #[4]) (hi : Tryd.prog.inits.idxOf? f = none)
    (hpar : (fn.params.toList.all fun t => Tryd.prog.readableRec t && decide (t < Tryd.prog.types.size)) = true)
    (hspec : ∀ ds : List (DataW H), ds.length = fn.params.size → s.fn H (ds ++ []) = { results := [.lit (.bool true)], args := ds })
    (w0 : World) (args0 : Array Value) (fuel : Nat) (hos : w0.os = os)
    (hv : (w0.forCall (fun _ _ => 0) ⟨#[], args0, []⟩).variablesB Tryd.prog = true)
    (hr : ((w0.forCall (fun _ _ => 0) ⟨#[], args0, []⟩).heap.toList.drop Tryd.prog.globals.size).take ((begin Tryd.prog (fun _ _ => 0) default).world.heap.size - Tryd.prog.globals.size) =
      (begin Tryd.prog (fun _ _ => 0) default).world.heap.toList.drop Tryd.prog.globals.size)
    (hok : Input.okWideB Tryd.prog (w0.forCall (fun _ _ => 0) ⟨#[], args0, []⟩) f ⟨#[], args0, []⟩ = true)
    (hpre : s.preB enc Tryd.prog fn [] false (w0.forCall (fun _ _ => 0) ⟨#[], args0, []⟩).memory args0 fuel = true)
    (hsz : s.sizedB enc Tryd.prog fn false (w0.forCall (fun _ _ => 0) ⟨#[], args0, []⟩).memory args0 fuel = true)
    (hx : laidMetH Tryd.prog laid (w0.forCall (fun _ _ => 0) ⟨#[], args0, []⟩).memory)
    (trip : ∀ (W : World) (base : Nat) (args : Array Value) (ds : List (DataW H)) (p : List MemPlace),
      (∀ (j : Nat) t v, fn.params[j]? = some t → args[j]? = some v → Value.okWide Tryd.prog W .any base t v) →
      DataW.TrodAll enc Tryd.prog W 0 (fun _ => true) true fn.params.toList args.toList ds p → laidMetH Tryd.prog laid W →
      Trip Tryd.prog (heapG W.heap) f args [] (fun v _ => v = .bool true)) (fr : Bool) :
    ReturnsInHanded {} Tryd.checked os f .any (fun w args => (s.pre enc Tryd.prog fn [] false w args ∧ laidMetH Tryd.prog laid w) ∧ sizedMet enc Tryd.prog fn (OpenSpec.ofChange s) false w args)
      (s.post enc Tryd.prog fn false fr false false) := by
  refine returnsInHanded_of_change_and (C := Tryd.checked) (X := fun w _ => laidMetH Tryd.prog laid w) (fun _ _ _ hh h => h.of_heap hh) own_knob started hi hfn
    (ChangeSpec.witness_at (enc := enc) (C := Tryd.checked) (os := os) (X := fun w _ => laidMetH Tryd.prog laid w) false w0 args0 fuel hos hv hr hok hpre hsz hx) ?_
  intro W base args ds gs before hval0 hW _ _ hL _
  have hW' := hW
  obtain ⟨p, q, hA0, hV0, rfl, hfz, hnd⟩ := hW
  rw [hvars] at hV0
  obtain ⟨rfl, rfl⟩ : gs = [] ∧ q = [] := by
    cases gs with
    | nil => exact ⟨rfl, hV0⟩
    | cons g r => exact absurd hV0 (by intro h; cases h)
  refine (calls_of_trip (trip W base args ds p hval0 hA0 hL)).mono fun e W' ⟨v, m, he, hb, hv⟩ => ?_
  subst he hv
  have hlen := (trodAll_length hA0).2
  have hsp := hspec ds (by rw [hlen]; simp)
  refine ⟨_, rfl, ds, [], p ++ [], [], p, [], hW', ?_, ?_, ?_, hb.frame _, fun h => by cases h⟩
  · rw [hsp, hrt]
    cases fr <;> exact trodAll_mk1 (shut_bool (u_bool (P := Tryd.prog) (T := 4) rfl) true)
  · rw [hsp]
    exact trodAll_below laidOut hb _ (fun t ht => by have := List.all_eq_true.1 hpar t ht; simp only [Bool.and_eq_true, decide_eq_true_eq] at this; exact this) hA0 fun x hx => hW'.lt x (List.mem_append.2 (.inl hx))
  · rw [hsp, hvars]; rfl
end Go.Proofs.YtogmacnlpclgkaaDoor
