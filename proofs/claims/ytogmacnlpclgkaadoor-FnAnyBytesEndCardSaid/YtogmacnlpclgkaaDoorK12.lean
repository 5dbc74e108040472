/-
  TEXTS MERGED: J2, J5, EngJ, EngK, EngM.
-/
import Derived.Test.YtogmacnlpclgkaaDoorK11
import Derived.Test.YtogmacnlpclgkaaDoorTie
import Derived.ChangeCalls
import Derived.LaidSub
import Derived.Test.YtogmacnlpclgkaaDoorK09
import Derived.Laws.BytesString
/-! JOINS 2: the package-level variables as the statements lay them; a law out of its walk. -/
namespace Go.Proofs.YtogmacnlpclgkaaDoor
open Go Go.Eng Go.ChangeShapes Go.WideShapes Go.RowKit

set_option maxRecDepth 100000
def laid4 : List (String × DataW Unit) := [("io.ErrShortBuffer", Rows.laid_io_ErrShortBuffer), ("io.EOF", Rows.laid_io_EOF), ("io.ErrUnexpectedEOF", Rows.laid_io_ErrUnexpectedEOF), ("framesunpacked/pub/zstd.fuzzing", Rows.laid_framesunpacked_pub_zstd_fuzzing)]

theorem own_knob : ownKnob Tryd.prog.godebug = none := by kernel_rfl
theorem laidOut : laidOutB Tryd.prog = true := by kernel_rfl
theorem gn_short : Tryd.prog.globalNamed "io.ErrShortBuffer" = some 3 := by kernel_rfl
theorem gn_eof : Tryd.prog.globalNamed "io.EOF" = some 0 := by kernel_rfl
theorem gn_ueof : Tryd.prog.globalNamed "io.ErrUnexpectedEOF" = some 1 := by kernel_rfl
theorem gn_fuzz : Tryd.prog.globalNamed "framesunpacked/pub/zstd.fuzzing" = some 2 := by kernel_rfl
theorem gt_short : (Tryd.prog.globals[3]?).map (·.type) = some 73 := by kernel_rfl
theorem gt_eof : (Tryd.prog.globals[0]?).map (·.type) = some 73 := by kernel_rfl
theorem gt_ueof : (Tryd.prog.globals[1]?).map (·.type) = some 73 := by kernel_rfl
theorem gt_fuzz : (Tryd.prog.globals[2]?).map (·.type) = some 4 := by kernel_rfl
theorem star : "*" ++ "errors.errorString" = "*errors.errorString" := by decide
theorem rowES (u : TypeId) (h : Tryd.prog.typeName? 3 u = some "*errors.errorString") : u = 122 :=
  typeName_ptr_named (nm := "errors.errorString") (by rw [star]; kernel_rfl) (by kernel_rfl) (by decide) u (by rw [star]; exact h)
theorem cES : Tryd.prog.cellsOf 124 = 1 := by kernel_rfl
theorem cS : Tryd.prog.cellsOf 9 = 1 := by kernel_rfl

theorem err_open {W : World} {fuel : Nat} {cs : List Value} {text : List UInt8} {p : List MemPlace}
    (h : DataW.trod (fun _ => ()) Tryd.prog W 0 (fun _ => true) false fuel 73 cs = some (.iface "*errors.errorString" (.ptr (.agg [.lit (.string text)])), p))
    (hok : ∀ u v, cs = [.iface u v] → Value.okWide Tryd.prog W .any 0 u v) :
    ∃ a s, cs = [.iface 122 (.pointer (some a))] ∧ W.cell? a = some (.string s) ∧ s.data.toList = text ∧ s.size ≤ maxLen ∧ p = MemPlace.row a 1 := by
  obtain ⟨ms, hi⟩ := u_ifc (P := Tryd.prog) (T := 73) rfl
  have hp := u_ptr (P := Tryd.prog) (T := 122) (e := 124) rfl
  obtain ⟨fl, hf, hl⟩ := u_st (P := Tryd.prog) (T := 124) (fs := [(0, 9)]) rfl
  have hs := u_string (P := Tryd.prog) (T := 9) rfl
  obtain ⟨f, rfl⟩ : ∃ f, fl = #[f] := by
    obtain ⟨l⟩ := fl
    match l, hl with
    | [f], _ => exact ⟨f, rfl⟩
  simp only [List.map_cons, List.map_nil, List.cons.injEq, Prod.mk.injEq, and_true] at hl
  exact errorString_of_trod hi rowES hp hf hl.2 hl.1 hs cES cS h hok

theorem errBlk {W : World} {b o : Nat} {s : ByteArray} (h : W.cell? ⟨b, o, none⟩ = some (.string s)) (hz : ∃ c t, W.heap[b]? = some (.cells c t (0, 0))) :
    ∃ B : Blk, (b, B) ∈ heapG W.heap ∧ B.fr = (0, 0) ∧ B.g o = .string s := by
  obtain ⟨c, t, hb⟩ := hz
  obtain ⟨cs, T, fr, hb', hlt, hv⟩ := cell_some h
  rw [hb] at hb'
  cases hb'
  exact ⟨_, heapG_mem hb, rfl, hv⟩
theorem varBlk {W : World} {n : String} {g : Nat} {x : Value} (hg : Tryd.prog.globalNamed n = some g) (hv : W.var? Tryd.prog n = some #[x]) : ∃ B : Blk, (g, B) ∈ heapG W.heap ∧ 0 < B.n ∧ B.g 0 = x := by
  have h0 : W.cell? ⟨g, 0, none⟩ = some x := by simpa using World.var?_cell hg hv 0
  obtain ⟨cs, T, fr, hb, hlt, hx⟩ := cell_some h0
  exact ⟨_, heapG_mem hb, hlt, hx⟩

set_option maxHeartbeats 1000000 in
/-- What the condition on the variables gives a walk. -/
theorem laid_sent {W : World} (h : laidMet Tryd.prog laid4 W) : ∃ (_ : Sent (heapG W.heap)) (fb : Blk), (2, fb) ∈ heapG W.heap ∧ 0 < fb.n ∧ fb.g 0 = .bool false := by
  obtain ⟨ps, ⟨g0, t0, cs0, f0, p0, q0, hg0, ht0, hv0, hd0, ⟨g1, t1, cs1, f1, p1, q1, hg1, ht1, hv1, hd1, ⟨g2, t2, cs2, f2, p2, q2, hg2, ht2, hv2, hd2, ⟨g3, t3, cs3, f3, p3, q3, hg3, ht3, hv3, hd3, hq3, e3⟩, e2⟩, e1⟩, e0⟩, hnd, hrows⟩ := h
  obtain rfl := Option.some.inj (gn_short.symm.trans hg0)
  obtain rfl := Option.some.inj (gn_eof.symm.trans hg1)
  obtain rfl := Option.some.inj (gn_ueof.symm.trans hg2)
  obtain rfl := Option.some.inj (gn_fuzz.symm.trans hg3)
  obtain rfl := Option.some.inj (gt_short.symm.trans ht0)
  obtain rfl := Option.some.inj (gt_eof.symm.trans ht1)
  obtain rfl := Option.some.inj (gt_ueof.symm.trans ht2)
  obtain rfl := Option.some.inj (gt_fuzz.symm.trans ht3)
  have hq3' : q3 = [] := hq3
  subst hq3' e3 e2 e1 e0
  obtain ⟨l1⟩ := cs1
  obtain ⟨l2⟩ := cs2
  obtain ⟨l3⟩ := cs3
  have ok1 : ∀ u v, l1 = [.iface u v] → Value.okWide Tryd.prog W .any 0 u v := fun u v e => by
    subst e
    exact (hrows 0 0 (by simp [MemPlace.row])).2 u v (by simpa using World.var?_cell hg1 hv1 0)
  have ok2 : ∀ u v, l2 = [.iface u v] → Value.okWide Tryd.prog W .any 0 u v := fun u v e => by
    subst e
    exact (hrows 1 0 (by simp [MemPlace.row])).2 u v (by simpa using World.var?_cell hg2 hv2 0)
  obtain ⟨a1, s1, rfl, hc1, hs1, hz1, rfl⟩ := err_open hd1 ok1
  obtain ⟨a2, s2, rfl, hc2, hs2, hz2, rfl⟩ := err_open hd2 ok2
  have sp1 : a1.spot = none := by
    unfold World.cell? at hc1
    split at hc1
    · cases hsp : a1.spot with
      | none => rfl
      | some k => rw [hsp] at hc1; simp at hc1
    · cases hc1
  have sp2 : a2.spot = none := by
    unfold World.cell? at hc2
    split at hc2
    · cases hsp : a2.spot with
      | none => rfl
      | some k => rw [hsp] at hc2; simp at hc2
    · cases hc2
  obtain ⟨b1, o1, _⟩ := a1
  obtain ⟨b2, o2, _⟩ := a2
  simp only at sp1 sp2
  subst sp1 sp2
  obtain ⟨E1, he1, he1f, he1g⟩ := errBlk hc1 (hrows b1 o1 (by simp [MemPlace.row])).1
  obtain ⟨U1, hu1, hu1f, hu1g⟩ := errBlk hc2 (hrows b2 o2 (by simp [MemPlace.row])).1
  obtain ⟨E0, he0, he0n, he0g⟩ := varBlk hg1 hv1
  obtain ⟨U0, hu0, hu0n, hu0g⟩ := varBlk hg2 hv2
  have hl3 : l3 = [.bool false] := by
    have hb := u_bool (P := Tryd.prog) (T := 4) rfl
    cases f3 with
    | zero => simp [DataW.trod] at hd3
    | succ k =>
      match l3, hd3 with
      | [], hd3 => simp [DataW.trod, hb] at hd3
      | _ :: _ :: _, hd3 => simp [DataW.trod, hb] at hd3
      | [v], hd3 =>
        cases v <;> simp [DataW.trod, hb, Rows.laid_framesunpacked_pub_zstd_fuzzing] at hd3
        rw [hd3.1]
  subst hl3
  obtain ⟨fb, hfb, hfn, hfv⟩ := varBlk hg3 hv3
  have hne : b2 ≠ b1 ∨ o2 ≠ o1 := by
    by_cases hbb : b2 = b1
    · right
      intro hoo
      subst hbb hoo
      rw [hc1] at hc2
      have hs : s1 = s2 := Value.string.inj (Option.some.inj hc2)
      rw [hs] at hs1
      exact absurd (hs1.symm.trans hs2) (by decide)
    · exact .inl hbb
  clear hd0 hd1 hd2 hd3 hrows hnd hc1 hc2 hs1 hs2
  have S : Sent (heapG W.heap) := { eb := b1, eo := o1, ub := b2, uo := o2, E0 := E0, E1 := E1, U0 := U0, U1 := U1, e0 := he0, e0n := he0n, e0g := he0g, e1 := he1, e1f := he1f, u0 := hu0, u0n := hu0n, u0g := hu0g, u1 := hu1, u1f := hu1f, ne := hne }
  exact ⟨S, fb, hfb, hfn, hfv⟩

/-- Arguments read behind the call as they did before. -/
theorem trodAll_below {P : Program} (hlo : laidOutB P = true) {H : Type} {enc : TypeId × Value → H} {W W' : World} (hb : Below W.heap.size W W') (ts : List TypeId) : ∀ {vs : List Value} {ds : List (DataW H)} {ps : List MemPlace},
    (∀ t ∈ ts, P.readableRec t = true ∧ t < P.types.size) → DataW.TrodAll enc P W 0 (fun _ => true) true ts vs ds ps → (∀ x ∈ ps, x.block < W.heap.size) →
    DataW.TrodAll enc P W' 0 (fun b => decide (b < W.heap.size)) true ts vs ds ps := by
  induction ts with
  | nil =>
    intro vs ds ps _ h _
    obtain ⟨rfl, rfl, rfl⟩ := trodAll_nil h
    exact trodAll_mk0
  | cons t ts ih =>
    intro vs ds ps ht h hlt
    obtain ⟨v, vs', d, ds', p, q, rfl, rfl, rfl, h1, h2⟩ := trodAll_cons h
    obtain ⟨a1, a2⟩ := ht t List.mem_cons_self
    exact trodAll_cons_mk (Below.trod hlo a1 a2 h1 hb fun x hx => hlt x (List.mem_append.2 (.inl hx))) (ih (fun t ht' => ht t (List.mem_cons_of_mem _ ht')) h2 fun x hx => hlt x (List.mem_append.2 (.inr hx)))

/-- A law, out of its walk. -/
theorem lifted_of_trip {f : FuncId} {fn : Func} {s : ChangeSpec} {laid : List (String × DataW Unit)} (os : Os) (started : os.Started) (H : Type) (enc : TypeId × Value → H)
    (hvars : s.vars = []) (hfn : Tryd.prog.funcs[f]? = some fn) (hrt : fn.resultTypes = #[4]) (hi : Tryd.prog.inits.idxOf? f = none)
    (hpar : (fn.params.toList.all fun t => Tryd.prog.readableRec t && decide (t < Tryd.prog.types.size)) = true)
    (hspec : ∀ ds : List (DataW H), ds.length = fn.params.size → s.fn H (ds ++ []) = { results := [.lit (.bool true)], args := ds })
    (w0 : World) (args0 : Array Value) (fuel : Nat) (hos : w0.os = os)
    (hv : (w0.forCall (fun _ _ => 0) ⟨#[], args0, []⟩).variablesB Tryd.prog = true)
    (hr : ((w0.forCall (fun _ _ => 0) ⟨#[], args0, []⟩).heap.toList.drop Tryd.prog.globals.size).take ((begin Tryd.prog (fun _ _ => 0) default).world.heap.size - Tryd.prog.globals.size) =
      (begin Tryd.prog (fun _ _ => 0) default).world.heap.toList.drop Tryd.prog.globals.size)
    (hok : Input.okWideB Tryd.prog (w0.forCall (fun _ _ => 0) ⟨#[], args0, []⟩) f ⟨#[], args0, []⟩ = true)
    (hpre : s.preB enc Tryd.prog fn [] false (w0.forCall (fun _ _ => 0) ⟨#[], args0, []⟩).memory args0 fuel = true)
    (hsz : s.sizedB enc Tryd.prog fn false (w0.forCall (fun _ _ => 0) ⟨#[], args0, []⟩).memory args0 fuel = true)
    (hx : laidMetH Tryd.prog laid (w0.forCall (fun _ _ => 0) ⟨#[], args0, []⟩).memory)
    (trip : ∀ (W : World) (base : Nat) (args : Array Value) (ds : List (DataW H)) (p : List MemPlace),
      (∀ (j : Nat) t v, fn.params[j]? = some t → args[j]? = some v → Value.okWide Tryd.prog W .any base t v) →
      DataW.TrodAll enc Tryd.prog W 0 (fun _ => true) true fn.params.toList args.toList ds p → laidMetH Tryd.prog laid W →
      Trip Tryd.prog (heapG W.heap) f args [] (fun v _ => v = .bool true)) (fr : Bool) :
    ReturnsInHanded {} Tryd.checked os f .any (fun w args => (s.pre enc Tryd.prog fn [] false w args ∧ laidMetH Tryd.prog laid w) ∧ sizedMet enc Tryd.prog fn (OpenSpec.ofChange s) false w args)
      (s.post enc Tryd.prog fn false fr false false) := by
  refine returnsInHanded_of_change_and (C := Tryd.checked) (X := fun w _ => laidMetH Tryd.prog laid w) (fun _ _ _ hh h => h.of_heap hh) own_knob started hi hfn
    (ChangeSpec.witness_at (enc := enc) (C := Tryd.checked) (os := os) (X := fun w _ => laidMetH Tryd.prog laid w) false w0 args0 fuel hos hv hr hok hpre hsz hx) ?_
  intro W base args ds gs before hval0 hW _ _ hL _
  have hW' := hW
  obtain ⟨p, q, hA0, hV0, rfl, hfz, hnd⟩ := hW
  rw [hvars] at hV0
  obtain ⟨rfl, rfl⟩ : gs = [] ∧ q = [] := by
    cases gs with
    | nil => exact ⟨rfl, hV0⟩
    | cons g r => exact absurd hV0 (by intro h; cases h)
  refine (calls_of_trip (trip W base args ds p hval0 hA0 hL)).mono fun e W' ⟨v, m, he, hb, hv⟩ => ?_
  subst he hv
  have hlen := (trodAll_length hA0).2
  have hsp := hspec ds (by rw [hlen]; simp)
  refine ⟨_, rfl, ds, [], p ++ [], [], p, [], hW', ?_, ?_, ?_, hb.frame _, fun h => by cases h⟩
  · rw [hsp, hrt]
    cases fr <;> exact trodAll_mk1 (shut_bool (u_bool (P := Tryd.prog) (T := 4) rfl) true)
  · rw [hsp]
    exact trodAll_below laidOut hb _ (fun t ht => by have := List.all_eq_true.1 hpar t ht; simp only [Bool.and_eq_true, decide_eq_true_eq] at this; exact this) hA0 fun x hx => hW'.lt x (List.mem_append.2 (.inl hx))
  · rw [hsp, hvars]; rfl
end Go.Proofs.YtogmacnlpclgkaaDoor

/-! JOINS 5: six package-level variables as the statements lay them. -/
namespace Go.Proofs.YtogmacnlpclgkaaDoor
open Go Go.Eng Go.ChangeShapes Go.WideShapes Go.RowKit
set_option maxRecDepth 100000

def laid6 : List (String × DataW Unit) := [("io.ErrShortBuffer", Rows.laid_io_ErrShortBuffer), ("io.EOF", Rows.laid_io_EOF), ("io.ErrUnexpectedEOF", Rows.laid_io_ErrUnexpectedEOF), ("framesunpacked/pub/zstd.literalLengthBase", Rows.laid_framesunpacked_pub_zstd_literalLengthBase), ("framesunpacked/pub/zstd.matchLengthBase", Rows.laid_framesunpacked_pub_zstd_matchLengthBase), ("framesunpacked/pub/zstd.fuzzing", Rows.laid_framesunpacked_pub_zstd_fuzzing)]
def keep4 (x : String × DataW Unit) : Bool := !(x.1 == "framesunpacked/pub/zstd.literalLengthBase") && !(x.1 == "framesunpacked/pub/zstd.matchLengthBase")
theorem laid6_4 : laid6.filter keep4 = laid4 := by kernel_rfl
theorem laid6_to4 {W : World} (h : laidMet Tryd.prog laid6 W) : laidMet Tryd.prog laid4 W := by
  have := laidMet.filter keep4 h
  rwa [laid6_4] at this

abbrev shortS6 : ByteArray := { data := #[115, 104, 111, 114, 116, 32, 98, 117, 102, 102, 101, 114] }
abbrev eofS6 : ByteArray := { data := #[69, 79, 70] }
abbrev ueofS6 : ByteArray := { data := #[117, 110, 101, 120, 112, 101, 99, 116, 101, 100, 32, 69, 79, 70] }
noncomputable def low6 : Nat := (World.holding Tryd.prog default ⟨#[], #[], []⟩).heap.size
noncomputable def laidWorld6 (os : Os) : World :=
  let w0 := World.holding Tryd.prog os ⟨#[.cells #[.string shortS6] 124, .cells #[.string eofS6] 124, .cells #[.string ueofS6] 124,
    .cells #[.int .u32 16777232, .int .u32 16777234, .int .u32 16777236, .int .u32 16777238, .int .u32 33554456, .int .u32 33554460, .int .u32 50331680, .int .u32 50331688, .int .u32 67108912, .int .u32 100663360, .int .u32 117440640, .int .u32 134217984, .int .u32 150995456, .int .u32 167773184, .int .u32 184551424, .int .u32 201330688, .int .u32 218112000, .int .u32 234897408, .int .u32 251691008, .int .u32 268500992] 40, .cells #[.int .u32 16777251, .int .u32 16777253, .int .u32 16777255, .int .u32 16777257, .int .u32 33554475, .int .u32 33554479, .int .u32 50331699, .int .u32 50331707, .int .u32 67108931, .int .u32 67108947, .int .u32 83886179, .int .u32 117440643, .int .u32 134217987, .int .u32 150995459, .int .u32 167773187, .int .u32 184551427, .int .u32 201330691, .int .u32 218112003, .int .u32 234897411, .int .u32 251691011, .int .u32 268500995] 40], #[], []⟩
  { w0 with heap := ((((w0.heap.modify 3 fun
      | .cells _ t frozen => .cells #[.iface 122 (.pointer (some ⟨low6, 0, none⟩))] t frozen
      | o => o).modify 0 fun
      | .cells _ t frozen => .cells #[.iface 122 (.pointer (some ⟨low6 + 1, 0, none⟩))] t frozen
      | o => o).modify 1 fun
      | .cells _ t frozen => .cells #[.iface 122 (.pointer (some ⟨low6 + 2, 0, none⟩))] t frozen
      | o => o).modify 4 fun
      | .cells _ t frozen => .cells #[.slice (some ⟨low6 + 3, 0, none⟩) 20 20] t frozen
      | o => o).modify 5 fun
      | .cells _ t frozen => .cells #[.slice (some ⟨low6 + 4, 0, none⟩) 21 21] t frozen
      | o => o }
theorem laidWorld6_met (os : Os) (args : Array Value) : laidMet Tryd.prog laid6 ((laidWorld6 os).forCall (fun _ _ => 0) ⟨#[], args, []⟩).memory :=
  laidMet_of_run' 64 (by kernel_rfl) (by kernel_rfl)
theorem laid6H {W : World} : laidMetH Tryd.prog laid6 W ↔ laidMet Tryd.prog laid6 W := Iff.rfl
/-- .. where variables hold slices. -/
theorem lifted_of_trip6 {f : FuncId} {fn : Func} {s : ChangeSpec} {laid : List (String × DataW Unit)} (os : Os) (started : os.Started) (H : Type) (enc : TypeId × Value → H)
    (hvars : s.vars = []) (hfn : Tryd.prog.funcs[f]? = some fn) (hrt : fn.resultTypes = #[4]) (hi : Tryd.prog.inits.idxOf? f = none)
    (hpar : (fn.params.toList.all fun t => Tryd.prog.readableRec t && decide (t < Tryd.prog.types.size)) = true)
    (hspec : ∀ ds : List (DataW H), ds.length = fn.params.size → s.fn H (ds ++ []) = { results := [.lit (.bool true)], args := ds })
    (w0 : World) (args0 : Array Value) (fuel : Nat) (hos : w0.os = os)
    (hv : (w0.forCall (fun _ _ => 0) ⟨#[], args0, []⟩).variablesRefB Tryd.prog = true)
    (hr : ((w0.forCall (fun _ _ => 0) ⟨#[], args0, []⟩).heap.toList.drop Tryd.prog.globals.size).take ((begin Tryd.prog (fun _ _ => 0) default).world.heap.size - Tryd.prog.globals.size) =
      (begin Tryd.prog (fun _ _ => 0) default).world.heap.toList.drop Tryd.prog.globals.size)
    (hok : Input.okWideB Tryd.prog (w0.forCall (fun _ _ => 0) ⟨#[], args0, []⟩) f ⟨#[], args0, []⟩ = true)
    (hpre : s.preB enc Tryd.prog fn [] false (w0.forCall (fun _ _ => 0) ⟨#[], args0, []⟩).memory args0 fuel = true)
    (hsz : s.sizedB enc Tryd.prog fn false (w0.forCall (fun _ _ => 0) ⟨#[], args0, []⟩).memory args0 fuel = true)
    (hx : laidMetH Tryd.prog laid (w0.forCall (fun _ _ => 0) ⟨#[], args0, []⟩).memory)
    (trip : ∀ (W : World) (base : Nat) (args : Array Value) (ds : List (DataW H)) (p : List MemPlace),
      (∀ (j : Nat) t v, fn.params[j]? = some t → args[j]? = some v → Value.okWide Tryd.prog W .any base t v) →
      DataW.TrodAll enc Tryd.prog W 0 (fun _ => true) true fn.params.toList args.toList ds p → laidMetH Tryd.prog laid W →
      Trip Tryd.prog (heapG W.heap) f args [] (fun v _ => v = .bool true)) (fr : Bool) :
    ReturnsInHanded {} Tryd.checked os f .any (fun w args => (s.pre enc Tryd.prog fn [] false w args ∧ laidMetH Tryd.prog laid w) ∧ sizedMet enc Tryd.prog fn (OpenSpec.ofChange s) false w args)
      (s.post enc Tryd.prog fn false fr false false) := by
  refine returnsInHanded_of_change_and (C := Tryd.checked) (X := fun w _ => laidMetH Tryd.prog laid w) (fun _ _ _ hh h => h.of_heap hh) own_knob started hi hfn
    (ChangeSpec.witness_shaped (enc := enc) (C := Tryd.checked) (os := os) (X := fun w _ => laidMetH Tryd.prog laid w) false w0 args0 fuel hos (World.shaped_of_RefB hv hr) hok hpre hsz hx) ?_
  intro W base args ds gs before hval0 hW _ _ hL _
  have hW' := hW
  obtain ⟨p, q, hA0, hV0, rfl, hfz, hnd⟩ := hW
  rw [hvars] at hV0
  obtain ⟨rfl, rfl⟩ : gs = [] ∧ q = [] := by
    cases gs with
    | nil => exact ⟨rfl, hV0⟩
    | cons g r => exact absurd hV0 (by intro h; cases h)
  refine (calls_of_trip (trip W base args ds p hval0 hA0 hL)).mono fun e W' ⟨v, m, he, hb, hv⟩ => ?_
  subst he hv
  have hlen := (trodAll_length hA0).2
  have hsp := hspec ds (by rw [hlen]; simp)
  refine ⟨_, rfl, ds, [], p ++ [], [], p, [], hW', ?_, ?_, ?_, hb.frame _, fun h => by cases h⟩
  · rw [hsp, hrt]
    cases fr <;> exact trodAll_mk1 (shut_bool (u_bool (P := Tryd.prog) (T := 4) rfl) true)
  · rw [hsp]
    exact trodAll_below laidOut hb _ (fun t ht => by have := List.all_eq_true.1 hpar t ht; simp only [Bool.and_eq_true, decide_eq_true_eq] at this; exact this) hA0 fun x hx => hW'.lt x (List.mem_append.2 (.inl hx))
  · rw [hsp, hvars]; rfl
end Go.Proofs.YtogmacnlpclgkaaDoor

/-! AN ENGINE OF WALKS, MORE RULES: bytes as a string; strings compared; a memory that a call leaves alone. -/
namespace Go.Eng
open Go

/-- Bytes as a string. -/
def strOf (z : Nat → Nat) (n : Nat) : ByteArray := ⟨((List.range n).map fun i => UInt8.ofNat (z i)).toArray⟩
theorem strOf_congr {z z' : Nat → Nat} {n : Nat} (h : ∀ i, i < n → z i = z' i) : strOf z n = strOf z' n := by
  unfold strOf
  congr 2
  apply List.map_congr_left
  intro i hi
  rw [h i (List.mem_range.1 hi)]
theorem foldl_str (z : Nat → Nat) : ∀ (l : List Nat) (a : Array UInt8), (l.map fun i => ((z i : Nat) : Int)).foldl (fun r n => ByteArray.push r (UInt8.ofNat n.toNat)) ⟨a⟩ = ⟨a ++ (l.map fun i => UInt8.ofNat (z i)).toArray⟩
  | [], a => by simp
  | i :: l, a => by
    simp only [List.map_cons, List.foldl_cons, Int.toNat_natCast]
    rw [show ByteArray.push ⟨a⟩ (UInt8.ofNat (z i)) = ⟨a.push (UInt8.ofNat (z i))⟩ from rfl, foldl_str z l]
    congr 1
    apply Array.toList_inj.1
    simp

section
variable {P : Program} [ty : TyC P] {G : Mem} {qs : List FuncId} {c : World} {n : Nat} {h0 : Base} {ops : Array Oper} {Q : Fr → Mem → Prop} {rest : List Oper} {f : Fr} {m : Mem}
variable {d : Option Tmp} {T T' tt : TypeId} {pos : String} {aft : Array Edge}

omit ty in
theorem run_strOf {M : Mem} {oa : Option Addr} {len cap : Nat} {z : Nat → Nat} (hv : View M oa len cap z) {w : World} (hM : ∀ p ∈ M, w.heap[p.1]? = some p.2.obj) : (Conv.bytesToString (.slice oa len cap)).run P w = .ok (.string (strOf z len)) w := by
  rcases hv.is with ⟨rfl, rfl, rfl⟩ | ⟨b, o, B, rfl, hm, hf, hg⟩
  · unfold Conv.bytesToString
    rw [Sem.run_pure]
    rfl
  · have hb := hM _ hm
    rw [run_bytesToString w ⟨b, o, none⟩ len cap ((List.range len).map fun i => ((z i : Nat) : Int))]
    · have e := foldl_str z (List.range len) #[]
      rw [show (⟨#[]⟩ : ByteArray) = ByteArray.empty from rfl] at e
      rw [e]
      congr 2
      unfold strOf
      simp
    · rw [run_loadCells w ⟨b, o, none⟩ len (fun i => .int .u8 (z i)) (fun j hj => by rw [Addr_add, ← hg j hj]; exact cell_of hb (by have := hf (by omega); show o + j < B.n; omega))]
      congr 1
      apply Array.toList_inj.1
      simp [Function.comp_def]

theorem ro_convBS {x : Operand} {oa : Option Addr} {len cap e : Nat} {z : Nat → Nat} (hv : View (m ++ G) oa len cap z) (hx : ev f x = .slice oa len cap) (hT : TyC.tk P T = .sl e) (he : TyC.tk P e = .int .u8) (hT' : TyC.tk P T' = .string)
    (hq : qs.contains (1000000 + 1000 * T + T') = true) (hd : dstOk n d = true) (h : RO P G qs c n h0 ops Q rest (updo f d (.string (strOf z len))) m) : RO P G qs c n h0 ops Q (⟨d, .convert T T' x, tt, pos, aft, none⟩ :: rest) f m := by
  refine ro_read cls_conv rfl hd (fun _ hp w hw hc => ⟨w, hc, .inl ?_⟩) (fun h0 => ?_) h
  · have e1 := run_convert_bytes_string (P := P) w T T' e oa len cap (u_sl hT) (u_int he) (u_string hT')
    rw [run_strOf hv (fun p hp' => by rw [hc.1]; exact hw.has p hp')] at e1
    simp [execOp, hx, e1]
  · exfalso
    have h1 : (if qs.contains (1000000 + 1000 * T + T') = true then 1 else 0) = 0 := h0
    rw [if_pos hq] at h1
    cases h1

omit ty in
theorem ro_eqStr {x y : Operand} {a b : ByteArray} {r : Bool} (hx : ev f x = .string a) (hy : ev f y = .string b) (hT : P.underlying T = some .string) (hr : (a.toList == b.toList) = r) (hd : dstOk n d = true)
    (h : RO P G qs c n h0 ops Q rest (updo f d (.bool r)) m) : RO P G qs c n h0 ops Q (⟨d, .binOp .eql T x y T', tt, pos, aft, none⟩ :: rest) f m := by
  refine ro_read (Nat.le_refl _) rfl hd (fun _ hp w hw hc => ⟨w, hc, .inl ?_⟩) (fun h => by cases h) h
  have _ := hT
  simp [execOp, hx, hy, eqGuard, binOp, Op.stringOp, hr]

omit ty in
theorem ro_neBool {x y : Operand} {a b r : Bool} (hx : ev f x = .bool a) (hy : ev f y = .bool b) (hT : P.underlying T = some .bool) (hr : (!(a == b)) = r) (hd : dstOk n d = true)
    (h : RO P G qs c n h0 ops Q rest (updo f d (.bool r)) m) : RO P G qs c n h0 ops Q (⟨d, .binOp .neq T x y T', tt, pos, aft, none⟩ :: rest) f m := by
  refine ro_read (Nat.le_refl _) rfl hd (fun _ hp w hw hc => ⟨w, hc, .inl ?_⟩) (fun h => by cases h) h
  have : (Op.equal T (.bool a) (.bool b)).run P w = .ok (a == b) w := run_equal_of fun k => by simp [Op.equalIn, run_underlying hT]
  simp [execOp, hx, hy, eqGuard, binOp, this, ← hr]

/-- The value of an array literal of one-cell elements. -/
theorem ro_buildArr {l : List (Nat × Operand)} {zs vs : List Value} {len e : Nat} (hk : TyC.tk P T = .arr len e) (hs : TyC.sz P e = 1) (hz : zeroL P T = some zs)
    (hall : (evParts f l).all (fun p => Nat.blt p.1 len && one1 p.2) = true) (hlen : zs.length = len) (hvs : setAll zs (evParts f l) = vs) (hd : dstOk n d = true)
    (h : RO P G qs c n h0 ops Q rest (updo f d (.agg vs.toArray)) m) : RO P G qs c n h0 ops Q (⟨d, .build T l.toArray, tt, pos, aft, none⟩ :: rest) f m := by
  refine ro_build (fun w => ?_) hd h
  unfold zeroL at hz
  simp only [Option.bind_eq_some_iff, Option.map_eq_some_iff] at hz
  obtain ⟨i, hi, z, hz, rfl⟩ := hz
  have hfill := fill_flat (fun i => some (i * 1, 1)) len (fun i hi => by simp) (evParts f l) z.cells.toList hlen (fun p hp => by
    have := List.all_eq_true.1 hall p hp
    simp only [Bool.and_eq_true] at this
    exact ⟨by simpa [Nat.blt_eq] using this.1, this.2⟩)
  rw [hvs] at hfill
  rw [evParts_eq]
  simp only [Instr.build, Sem.run_bind, zeroValue, typeInfo, run_program, Result.andThen_ok, hi, Sem.run_pure, hz, run_underlying (u_arr hk), run_sizeOf hs (by omega)]
  simp only [Array.toArray_toList] at hfill
  rw [hfill]
  rfl

/-- An element of an array's value. -/
theorem ro_indexP {x y : Operand} {vs : List Value} {k : IntKind} {I : Int} {i len e : Nat} {v : Value} (hx : ev f x = .agg vs.toArray) (hy : ev f y = .int k I) (hI : I = (i : Int)) (hT : TyC.tk P T = .arr len e) (hs : TyC.sz P e = 1) (h1 : oneTk (TyC.tk P e) = true)
    (hi : i < len) (hv : vs[i]? = some v) (hd : dstOk n d = true) (h : RO P G qs c n h0 ops Q rest (updo f d v) m) : RO P G qs c n h0 ops Q (⟨d, .index T x y, tt, pos, aft, none⟩ :: rest) f m := by
  subst hI
  refine ro_pure rfl rfl hd (fun w => ?_) h
  simp [execOp, hx, hy, Instr.index, asIntOf, run_underlying (u_arr hT), hi, run_sizeOf hs (by omega), part, run_isAgg_one h1, hv]

omit ty in
/-- A call, with blocks beside that it leaves alone. -/
theorem Trip.freeze {fm pre : Mem} {fn : FuncId} {args : Array Value} {R : Value → Mem → Prop} (t : Trip P (fm ++ G) fn args pre R) : Trip P G fn args (pre ++ fm) (fun v m' => ∃ m0, R v m0 ∧ m' = m0 ++ fm) := by
  intro c h w hc o
  have hk : (pre ++ fm).keys = pre.keys ++ fm.keys := by unfold Mem.keys; rw [List.map_append]
  have o1 : Own ⟨h, pre.keys, false⟩ (fm ++ G) pre h :=
    { size := o.size, has := fun p hp => o.has p (by rw [List.append_assoc]; exact hp), nodup := by have := o.nodup; rwa [List.append_assoc] at this,
      known := fun p hp => .inl (List.mem_map_of_mem hp), old := fun _ _ _ => rfl, ex := fun h => by cases h }
  refine (t c h w hc o1).mono ?_
  rintro e w' ⟨v, m0, h', rfl, hc', o', hR⟩
  refine ⟨v, m0 ++ fm, h', rfl, hc', ?_, m0, hR, rfl⟩
  exact { size := o'.size, has := fun p hp => o'.has p (by rw [List.append_assoc] at hp; exact hp), nodup := by have := o'.nodup; rwa [← List.append_assoc] at this,
          known := fun p hp => by
            rcases List.mem_append.1 hp with h1 | h1
            · rcases o'.known p h1 with h2 | h2
              · left; show p.1 ∈ (pre ++ fm).keys; rw [hk]; exact List.mem_append.2 (.inl h2)
              · exact .inr h2
            · left; show p.1 ∈ (pre ++ fm).keys; rw [hk]; exact List.mem_append.2 (.inr (List.mem_map_of_mem h1)),
          old := fun b hb hn => o'.old b hb fun h2 => hn (by show b ∈ (pre ++ fm).keys; rw [hk]; exact List.mem_append.2 (.inl h2)),
          ex := fun h => by cases h }
end
end Go.Eng

/-! ENGINE K: append that keeps the old block. -/
namespace Go.Eng
open Go
/-- Blocks stay (what they hold may change). -/
def Kp (m m' : Mem) : Prop := ∀ b B, (b, B) ∈ m → ∃ B' : Blk, (b, B') ∈ m' ∧ B'.n = B.n ∧ B'.fr = B.fr
theorem Kp.refl (m : Mem) : Kp m m := fun _ B h => ⟨B, h, rfl, rfl⟩
theorem Kp.trans {a b c : Mem} (h : Kp a b) (h' : Kp b c) : Kp a c := fun x X hx => by
  obtain ⟨Y, hy, e1, e2⟩ := h x X hx
  obtain ⟨Z, hz, e3, e4⟩ := h' x Y hy
  exact ⟨Z, hz, e3.trans e1, e4.trans e2⟩
theorem Kp.sub {a b : Mem} (h : ∀ p, p ∈ a → p ∈ b) : Kp a b := fun _ B hx => ⟨B, h _ hx, rfl, rfl⟩
/-- A slice of bytes, nil or with its block there. -/
def SlIn (v : Value) (m : Mem) : Prop := v = .slice none 0 0 ∨ ∃ b l c B, v = .slice (some ⟨b, 0, none⟩) l c ∧ (b, B) ∈ m ∧ l ≤ c ∧ c ≤ B.n ∧ B.fr = (0, 0)
theorem SlIn.keep {v : Value} {m m' : Mem} (h : SlIn v m) (k : Kp m m') : SlIn v m' := by
  rcases h with h | ⟨b, l, c, B, h1, h2, h3, h4, h5⟩
  · exact .inl h
  · obtain ⟨B', h6, h7, h8⟩ := k b B h2
    exact .inr ⟨b, l, c, B', h1, h6, h3, by omega, by rw [h8]; exact h5⟩
/-- A slice of bytes with its block (from its beginning), and what it holds. -/
def LtM (v : Value) (len : Nat) (D : Nat → Nat) (sm : Mem) : Prop :=
  (v = .slice none 0 0 ∧ len = 0 ∧ sm = []) ∨
  ∃ b cap B, v = .slice (some ⟨b, 0, none⟩) len cap ∧ sm = [(b, B)] ∧ B.fr = (0, 0) ∧ cap ≤ B.n ∧ len ≤ cap ∧ ∀ i, i < len → B.g i = .int .u8 (D i)
theorem LtM.congr {v : Value} {len : Nat} {D D' : Nat → Nat} {sm : Mem} (h : LtM v len D sm) (e : ∀ i, i < len → D i = D' i) : LtM v len D' sm := by
  rcases h with h | ⟨b, c, B, h1, h2, h3, h4, h5, h6⟩
  · exact .inl h
  · exact .inr ⟨b, c, B, h1, h2, h3, h4, h5, fun i hi => by rw [h6 i hi, e i hi]⟩
theorem LtM.slIn {v : Value} {len : Nat} {D : Nat → Nat} {sm : Mem} (h : LtM v len D sm) : SlIn v sm := by
  rcases h with ⟨h, _, _⟩ | ⟨b, c, B, h1, h2, h3, h4, h5, h6⟩
  · exact .inl h
  · exact .inr ⟨b, len, c, B, h1, by rw [h2]; exact List.mem_cons_self, h5, h4, h3⟩
theorem LtM.one {v : Value} {len : Nat} {D : Nat → Nat} {sm : Mem} (h : LtM v len D sm) : one1 v = true := by
  rcases h with ⟨rfl, _, _⟩ | ⟨b, c, B, rfl, _⟩ <;> rfl
theorem LtM.form {v : Value} {len : Nat} {D : Nat → Nat} {sm : Mem} (h : LtM v len D sm) : ∃ oa cp, v = .slice oa len cp := by
  rcases h with ⟨rfl, rfl, _⟩ | ⟨b, c, B, rfl, _⟩
  · exact ⟨_, _, rfl⟩
  · exact ⟨_, _, rfl⟩
/-- Cut to none. -/
theorem SlIn.zero {v : Value} {m : Mem} (h : SlIn v m) : (v = .slice none 0 0 ∧ LtM (.slice none 0 0) 0 (fun _ => 0) []) ∨ ∃ b l c B r, v = .slice (some ⟨b, 0, none⟩) l c ∧ l ≤ c ∧ m.Perm ((b, B) :: r) ∧ LtM (.slice (some ⟨b, 0, none⟩) 0 c) 0 (fun _ => 0) [(b, B)] := by
  rcases h with h | ⟨b, l, c, B, h1, h2, h3, h4, h5⟩
  · exact .inl ⟨h, .inl ⟨rfl, rfl, rfl⟩⟩
  · obtain ⟨s, t, e⟩ := List.append_of_mem h2
    exact .inr ⟨b, l, c, B, s ++ t, h1, h3, by rw [e]; exact List.perm_middle, .inr ⟨b, c, B, rfl, rfl, h5, h4, Nat.zero_le _, fun i hi => absurd hi (Nat.not_lt_zero _)⟩⟩

/-- What bytes D hold with k bytes s behind the first len. -/
def catD (D : Nat → Nat) (len : Nat) (s : Nat → Nat) : Nat → Nat := fun i => if i < len then D i else s (i - len)

section
variable {P : Program} [ty : TyC P] {G : Mem} {qs : List FuncId} {c : World} {n : Nat} {h0 : Base} {ops : Array Oper} {Q : Fr → Mem → Prop} {rest : List Oper} {f : Fr} {m : Mem}
variable {d : Option Tmp} {T T' tt : TypeId} {pos : String} {aft : Array Edge}

omit ty in
/-- Blocks that are not wanted any more. -/
theorem J_drop {cd : Code} {Q : Exit → Fr → Mem → Prop} {f : Fr} {m jk : Mem} (h : J P G c n h0 cd Q f m) : J P G c n h0 cd Q f (m ++ jk) :=
  fun a w hp r hc o => h a w hp r hc o.drop

theorem ro_appCoreK {x y : Operand} {ats : Array TypeId} {T1 e s len cap k : Nat} {src : Nat → Value} {zs : List Value} {base : Option (Nat × Nat × Blk)} {fm : Mem} (hx : ev f x = .slice (baseA base) len cap) (hT : ats[0]? = some T) (hTe : TyC.tk P T = .sl e) (hs : TyC.sz P e = s + 1)
    (hz : zeroL P e = some zs) (hby : TyC.by_ P e ≤ 64) (hT1 : ats[1]? = some T1) (hT1' : isSl (TyC.tk P T1) = true)
    (hm : m.Perm (baseM base ++ fm)) (ha : BaseFit s len cap base)
    (hsrc : Src (m ++ G) (s + 1) (ev f y) k src) (hone : ∀ j, j < k * (s + 1) → one1 (src j) = true) (hk : len + k ≤ 2 ^ 40) (hex : h0.ex = false) (hd : dstOk n d = true)
    (h1 : len + k ≤ cap → RO P G qs c n h0 ops Q rest (updo f d (.slice (baseA base) (len + k) cap)) (basePut s len k src base ++ fm))
    (h2 : cap < len + k → ∀ b' cap' B', len + k ≤ cap' → B'.fr = (0, 0) → B'.n = cap' * (s + 1) → (∀ i, i < len * (s + 1) → B'.g i = baseG base i) → (∀ i, i < k * (s + 1) → B'.g (len * (s + 1) + i) = src i) →
      (∀ i, (len + k) * (s + 1) ≤ i → i < cap' * (s + 1) → B'.g i = zerosG zs (i - (len + k) * (s + 1))) → RO P G qs c n h0 ops Q rest (updo f d (.slice (some ⟨b', 0, none⟩) (len + k) cap')) ((b', B') :: (baseM base ++ fm))) :
    RO P G qs c n h0 ops Q (⟨d, .call ⟨.builtin .append, #[x, y], ats⟩, tt, pos, aft, none⟩ :: rest) f m := by
  refine ro_eff rfl rfl hd fun hp w hw hc a r => ?_
  have hw1 := hw.perm hm
  have hM : ∀ p ∈ m ++ G, w.heap[p.1]? = some p.2.obj := fun p hp' => by rw [hc.1]; exact hw.has p hp'
  have hc' : At c w.heap w := ⟨rfl, hc.2⟩
  have hha : BaseIn w.heap s len cap k src base := by
    rcases base with _ | ⟨b, o, B⟩
    · exact ha
    · refine ⟨?_, ha.1, ha.2.1, ha.2.2, hone⟩
      rw [hc.1]; exact hw1.has (b, B) (by simp [baseM])
  obtain ⟨v', w', hr, hc2, hcase⟩ := run_append (P := P) (tt := tt) (base := base) hT hTe hs hz hby ⟨T1, hT1, hT1'⟩ rfl hsrc hM hk hc' hha
  have hrun : (execOp a.eval ⟨d, .call ⟨.builtin .append, #[x, y], ats⟩, tt, pos, aft, none⟩).run P w = .ok (.value v') w' := by
    rw [r.eval]
    simp only [execOp, resolve, Sem.run_bind, Sem.run_pure, Result.andThen_ok, invoke, builtin]
    rw [show (#[x, y].map (ev f)) = #[ev f x, ev f y] by simp, hx, hr]
    rfl
  rcases hcase with ⟨hroom, rfl, hh⟩ | ⟨hno, cap', hcap, rfl, B', hh, hf, hn', g1, g2, g3⟩
  · refine upon_val_ok hrun ⟨_, _, w'.heap, r.put hd _, hc2, ?_, h1 hroom⟩
    rcases base with _ | ⟨b, o, B⟩
    · have hh' : w'.heap = w.heap := hh
      rw [hh', hc.1]
      simpa [baseM, basePut] using hw1
    · have hh' : Turned w.heap b _ w'.heap := hh
      rw [hc.1] at hh'
      exact hw1.turned hex (Put.here (b := b) (B := B)) hh'
  · refine upon_val_ok hrun ⟨_, _, w'.heap, r.put hd _, hc2, ?_, h2 hno _ cap' B' hcap hf hn' g1 g2 g3⟩
    rw [hc.1] at hh ⊢
    exact hw1.pushed hex B' hh

/-- append to bytes; the blocks stay. -/
theorem ro_appL {x y : Operand} {ats : Array TypeId} {T1 e len k : Nat} {v : Value} {D s : Nat → Nat} {src : Nat → Value} {sm jk fm : Mem} (hx : ev f x = v) (hT : ats[0]? = some T) (hTe : TyC.tk P T = .sl e) (hs : TyC.sz P e = 1)
    (hz : zeroL P e = some [.int .u8 0]) (hby : TyC.by_ P e ≤ 64) (hT1 : ats[1]? = some T1) (hT1' : isSl (TyC.tk P T1) = true)
    (hsl : LtM v len D sm) (hm : m.Perm (fm ++ (sm ++ jk))) (hsrc : Src (m ++ G) 1 (ev f y) k src) (hsv : ∀ j, j < k → src j = .int .u8 (s j)) (hk : len + k ≤ 2 ^ 40) (hex : h0.ex = false) (hd : dstOk n d = true)
    (h : ∀ v' sm' jk', LtM v' (len + k) (catD D len s) sm' → one1 v' = true → Kp (sm ++ jk) (sm' ++ jk') → RO P G qs c n h0 ops Q rest (updo f d v') (fm ++ (sm' ++ jk')))
    (hQ : ∀ f m m', MEqv m m' → Q f m' → Q f m := by first | exact fun _ _ _ e h => J_eqv e h | exact fun _ _ _ e h => ends_eqv e h) :
    RO P G qs c n h0 ops Q (⟨d, .call ⟨.builtin .append, #[x, y], ats⟩, tt, pos, aft, none⟩ :: rest) f m := by
  have hone : ∀ j, j < k * (0 + 1) → one1 (src j) = true := fun j hj => by rw [hsv j (by omega)]; rfl
  have hp : m.Perm (sm ++ (jk ++ fm)) := hm.trans (List.perm_append_comm.trans (by rw [List.append_assoc]))
  have fin : ∀ v' sm' jk', LtM v' (len + k) (catD D len s) sm' → Kp (sm ++ jk) (sm' ++ jk') → RO P G qs c n h0 ops Q rest (updo f d v') (sm' ++ (jk' ++ fm)) := fun v' sm' jk' h1 h2 => by
    have e : (sm' ++ (jk' ++ fm)).Perm (fm ++ (sm' ++ jk')) := by rw [← List.append_assoc]; exact List.perm_append_comm
    exact RO_eqv (.of_perm e) (fun f => hQ f _ _ (.of_perm e)) (h v' sm' jk' h1 h1.one h2)
  rcases hsl with ⟨rfl, rfl, rfl⟩ | ⟨b, cap, B, rfl, rfl, hf, ho, hlc, hcl⟩
  · refine ro_appCoreK (s := 0) (base := none) (cap := 0) hx hT hTe hs hz hby hT1 hT1' hp ⟨rfl, rfl⟩ hsrc hone hk hex hd (fun hr => ?_) (fun hr b' cap' B' h1 h2 h3 h4 h5 h6 => ?_)
    · obtain rfl : k = 0 := by omega
      exact fin (.slice none 0 0) [] jk (.inl ⟨rfl, rfl, rfl⟩) (Kp.refl _)
    · simp only [Nat.zero_add, Nat.mul_one, Nat.zero_mul, Nat.not_lt_zero] at *
      refine fin _ [(b', B')] jk (.inr ⟨b', cap', B', rfl, rfl, h2, by omega, by omega, fun i hi => ?_⟩) (Kp.sub fun p hp => List.mem_cons_of_mem _ hp)
      unfold catD
      rw [if_neg (by omega), h5 i (by omega), hsv i (by omega), Nat.sub_zero]
  · refine ro_appCoreK (s := 0) (base := some (b, 0, B)) hx hT hTe hs hz hby hT1 hT1' hp ⟨hf, by omega, hlc⟩ hsrc hone hk hex hd (fun hr => ?_) (fun hr b' cap' B' h1 h2 h3 h4 h5 h6 => ?_)
    · refine fin _ [(b, _)] jk (.inr ⟨b, cap, _, rfl, rfl, hf, ho, hr, fun i hi => ?_⟩) (fun b1 B1 h1 => ?_)
      · show blit B.g (0 + len * (0 + 1)) (k * (0 + 1)) src i = _
        rw [show 0 + len * (0 + 1) = len by omega, show k * (0 + 1) = k by omega]
        unfold catD
        by_cases hik : i < len
        · rw [blit_out _ _ _ _ _ (by omega), if_pos hik]; exact hcl i hik
        · rw [blit_in _ _ _ _ _ (by omega) (by omega), if_neg hik]; exact hsv _ (by omega)
      · rcases List.mem_cons.1 h1 with h | h
        · obtain ⟨rfl, rfl⟩ := Prod.mk.inj h
          exact ⟨_, List.mem_cons_self, rfl, rfl⟩
        · exact ⟨B1, List.mem_cons_of_mem _ h, rfl, rfl⟩
    · simp only [Nat.zero_add, Nat.mul_one] at *
      refine fin _ [(b', B')] ((b, B) :: jk) (.inr ⟨b', cap', B', rfl, rfl, h2, by omega, h1, fun i hi => ?_⟩) (Kp.sub fun p hp => List.mem_cons_of_mem _ hp)
      unfold catD
      by_cases hik : i < len
      · rw [if_pos hik, h4 i hik]; simp only [baseG, Nat.zero_add]; exact hcl i hik
      · rw [if_neg hik, ← hsv _ (by omega)]
        have := h5 (i - len) (by omega)
        rw [show len + (i - len) = i by omega] at this
        exact this
end
end Go.Eng

/-! ENGINE M: append of so many zeros that keeps the old block. -/
namespace Go.Eng
open Go
section
variable {P : Program} [ty : TyC P] {G : Mem} {qs : List FuncId} {c : World} {n : Nat} {h0 : Base} {ops : Array Oper} {Q : Fr → Mem → Prop} {rest : List Oper} {f : Fr} {m : Mem}
variable {d : Option Tmp} {T T' tt : TypeId} {pos : String} {aft : Array Edge}

theorem ro_appZCoreK {x y : Operand} {ats : Array TypeId} {T1 e s len cap k : Nat} {zs : List Value} {base : Option (Nat × Nat × Blk)} {fm : Mem} (hx : ev f x = .slice (baseA base) len cap) (hT : ats[0]? = some T) (hTe : TyC.tk P T = .sl e) (hs : TyC.sz P e = s + 1)
    (hz : zeroL P e = some zs) (hby : TyC.by_ P e ≤ 64) (hT1 : ats[1]? = some T1) (hT1' : TyC.tk P T1 = .int .i64)
    (hm : m.Perm (baseM base ++ fm)) (ha : BaseFit s len cap base)
    (hy : ev f y = .int .i64 (k : Int)) (hone : ∀ j, j < k * (s + 1) → one1 ((zerosG zs) j) = true) (hk : len + k ≤ 2 ^ 40) (hex : h0.ex = false) (hd : dstOk n d = true)
    (h1 : len + k ≤ cap → RO P G qs c n h0 ops Q rest (updo f d (.slice (baseA base) (len + k) cap)) (basePut s len k (zerosG zs) base ++ fm))
    (h2 : cap < len + k → ∀ b' cap' B', len + k ≤ cap' → B'.fr = (0, 0) → B'.n = cap' * (s + 1) → (∀ i, i < len * (s + 1) → B'.g i = baseG base i) → (∀ i, i < k * (s + 1) → B'.g (len * (s + 1) + i) = (zerosG zs) i) →
      (∀ i, (len + k) * (s + 1) ≤ i → i < cap' * (s + 1) → B'.g i = zerosG zs (i - (len + k) * (s + 1))) → RO P G qs c n h0 ops Q rest (updo f d (.slice (some ⟨b', 0, none⟩) (len + k) cap')) ((b', B') :: (baseM base ++ fm))) :
    RO P G qs c n h0 ops Q (⟨d, .call ⟨.builtin .append, #[x, y], ats⟩, tt, pos, aft, none⟩ :: rest) f m := by
  refine ro_eff rfl rfl hd fun hp w hw hc a r => ?_
  have hw1 := hw.perm hm
  have hc' : At c w.heap w := ⟨rfl, hc.2⟩
  have hha : BaseIn w.heap s len cap k (zerosG zs) base := by
    rcases base with _ | ⟨b, o, B⟩
    · exact ha
    · refine ⟨?_, ha.1, ha.2.1, ha.2.2, hone⟩
      rw [hc.1]; exact hw1.has (b, B) (by simp [baseM])
  obtain ⟨v', w', hr, hc2, hcase⟩ := run_appendZ (P := P) (tt := tt) (base := base) hT hTe hs hz hby ⟨T1, hT1, hT1'⟩ rfl hy hk hc' hha
  have hrun : (execOp a.eval ⟨d, .call ⟨.builtin .append, #[x, y], ats⟩, tt, pos, aft, none⟩).run P w = .ok (.value v') w' := by
    rw [r.eval]
    simp only [execOp, resolve, Sem.run_bind, Sem.run_pure, Result.andThen_ok, invoke, builtin]
    rw [show (#[x, y].map (ev f)) = #[ev f x, ev f y] by simp, hx, hr]
    rfl
  rcases hcase with ⟨hroom, rfl, hh⟩ | ⟨hno, cap', hcap, rfl, B', hh, hf, hn', g1, g2, g3⟩
  · refine upon_val_ok hrun ⟨_, _, w'.heap, r.put hd _, hc2, ?_, h1 hroom⟩
    rcases base with _ | ⟨b, o, B⟩
    · have hh' : w'.heap = w.heap := hh
      rw [hh', hc.1]
      simpa [baseM, basePut] using hw1
    · have hh' : Turned w.heap b _ w'.heap := hh
      rw [hc.1] at hh'
      exact hw1.turned hex (Put.here (b := b) (B := B)) hh'
  · refine upon_val_ok hrun ⟨_, _, w'.heap, r.put hd _, hc2, ?_, h2 hno _ cap' B' hcap hf hn' g1 g2 g3⟩
    rw [hc.1] at hh ⊢
    exact hw1.pushed hex B' hh

/-- append(x, make([]T, n)...) to no bytes; the block stays. -/
theorem ro_appLZ {x y : Operand} {ats : Array TypeId} {T1 e k : Nat} {v : Value} {D : Nat → Nat} {sm fm : Mem} (hx : ev f x = v) (hT : ats[0]? = some T) (hTe : TyC.tk P T = .sl e) (hs : TyC.sz P e = 1)
    (hz : zeroL P e = some [.int .u8 0]) (hby : TyC.by_ P e ≤ 64) (hT1 : ats[1]? = some T1) (hT1' : TyC.tk P T1 = .int .i64)
    (hsl : LtM v 0 D sm) (hm : m.Perm (sm ++ fm)) (hy : ev f y = .int .i64 (k : Int)) (hk : k ≤ 2 ^ 40) (hex : h0.ex = false) (hd : dstOk n d = true)
    (h0' : ∀ v' sm' jk', LtM v' k (fun _ => 0) sm' → Kp sm (sm' ++ jk') → RO P G qs c n h0 ops Q rest (updo f d v') (fm ++ (sm' ++ jk')))
    (hQ : ∀ f m m', MEqv m m' → Q f m' → Q f m := by first | exact fun _ _ _ e h => J_eqv e h | exact fun _ _ _ e h => ends_eqv e h) :
    RO P G qs c n h0 ops Q (⟨d, .call ⟨.builtin .append, #[x, y], ats⟩, tt, pos, aft, none⟩ :: rest) f m := by
  have h : ∀ v' sm' jk', LtM v' k (fun _ => 0) sm' → Kp sm (sm' ++ jk') → RO P G qs c n h0 ops Q rest (updo f d v') (sm' ++ (jk' ++ fm)) := fun v' sm' jk' h1 h2 => by
    have e : (sm' ++ (jk' ++ fm)).Perm (fm ++ (sm' ++ jk')) := by rw [← List.append_assoc]; exact List.perm_append_comm
    exact RO_eqv (.of_perm e) (fun f => hQ f _ _ (.of_perm e)) (h0' v' sm' jk' h1 h2)
  have hzo : ∀ j, zerosG [.int .u8 0] j = .int .u8 0 := fun j => by
    show [Value.int .u8 0].getD (j % 1) undef = _
    rw [Nat.mod_one]; rfl
  have hone : ∀ j, j < k * (0 + 1) → one1 (zerosG [.int .u8 0] j) = true := fun j _ => by rw [hzo]; rfl
  rcases hsl with ⟨rfl, _, rfl⟩ | ⟨b, cap, B, rfl, rfl, hf, ho, hlc, hcl⟩
  · refine ro_appZCoreK (s := 0) (len := 0) (base := none) (cap := 0) hx hT hTe hs hz hby hT1 hT1' hm ⟨rfl, rfl⟩ hy hone (by omega) hex hd (fun hr => ?_) (fun hr b' cap' B' h1 h2 h3 h4 h5 h6 => ?_)
    · obtain rfl : k = 0 := by omega
      exact h (.slice none 0 0) [] [] (.inl ⟨rfl, rfl, rfl⟩) (Kp.refl _)
    · rw [Nat.zero_add] at *
      refine h _ [(b', B')] [] (.inr ⟨b', cap', B', rfl, rfl, h2, by omega, h1, fun i hi => ?_⟩) (fun _ _ hp => by cases hp)
      have := h5 i (by omega)
      rw [show 0 * (0 + 1) + i = i by omega, hzo] at this
      exact this
  · refine ro_appZCoreK (s := 0) (len := 0) (base := some (b, 0, B)) hx hT hTe hs hz hby hT1 hT1' hm ⟨hf, by omega, hlc⟩ hy hone (by omega) hex hd (fun hr => ?_) (fun hr b' cap' B' h1 h2 h3 h4 h5 h6 => ?_)
    · rw [Nat.zero_add] at *
      refine h _ [(b, _)] [] (.inr ⟨b, cap, _, rfl, rfl, hf, ho, hr, fun i hi => ?_⟩) (fun b1 B1 h1 => ?_)
      · show blit B.g (0 + 0 * (0 + 1)) (k * (0 + 1)) (zerosG [.int .u8 0]) i = _
        rw [blit_in _ _ _ _ _ (by omega) (by omega), hzo]; rfl
      · rcases List.mem_cons.1 h1 with h | h
        · obtain ⟨rfl, rfl⟩ := Prod.mk.inj h
          exact ⟨_, List.mem_cons_self, rfl, rfl⟩
        · cases h
    · rw [Nat.zero_add] at *
      refine h _ [(b', B')] [(b, B)] (.inr ⟨b', cap', B', rfl, rfl, h2, by omega, h1, fun i hi => ?_⟩) (Kp.sub fun p hp => List.mem_cons_of_mem _ hp)
      have := h5 i (by omega)
      rw [show 0 * (0 + 1) + i = i by omega, hzo] at this
      exact this
end

/-! A region in an order of its own -/
def pickO (l : List Oper) : List Nat → Option (List Oper)
  | [] => some []
  | i :: r => match l[i]?, pickO l r with
    | some o, some t => some (o :: t)
    | _, _ => none
theorem pickO_map {l : List Oper} : ∀ {ord : List Nat} {l' : List Oper}, pickO l ord = some l' → ord.map (l.toArray[·]?) = l'.map some
  | [], l', h => by cases h; rfl
  | i :: r, l', h => by
    unfold pickO at h
    split at h
    · rename_i o t h1 h2
      cases h
      simp only [List.map_cons, pickO_map h2]
      congr 1
      simpa using h1
    · cases h
end Go.Eng
