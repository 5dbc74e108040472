/-
  JOINS 5: six package-level variables as the statements lay them.
-/
import Derived.Test.YtogmacnlpclgkaaDoorJ2
import Derived.LaidSub
namespace Go.Proofs.YtogmacnlpclgkaaDoor
open Go Go.Eng Go.ChangeShapes Go.WideShapes Go.RowKit
set_option maxRecDepth 100000

def laid6 : List (String × DataW Unit) := [("io.ErrShortBuffer", Rows.laid_io_ErrShortBuffer), ("io.EOF", Rows.laid_io_EOF), ("io.ErrUnexpectedEOF", Rows.laid_io_ErrUnexpectedEOF), ("framesunpacked/pub/zstd.literalLengthBase", Rows.laid_framesunpacked_pub_zstd_literalLengthBase), ("framesunpacked/pub/zstd.matchLengthBase", Rows.laid_framesunpacked_pub_zstd_matchLengthBase), ("framesunpacked/pub/zstd.fuzzing", Rows.laid_framesunpacked_pub_zstd_fuzzing)]
def keep4 (x : String × DataW Unit) : Bool := !(x.1 == "framesunpacked/pub/zstd.literalLengthBase") && !(x.1 == "framesunpacked/pub/zstd.matchLengthBase")
theorem laid6_4 : laid6.filter keep4 = laid4 := by kernel_rfl
theorem laid6_to4 {W : World} (h : laidMet Tryd.prog laid6 W) : laidMet Tryd.prog laid4 W := by
  have := laidMet.filter keep4 h
  rwa [laid6_4] at this

abbrev shortS6 : ByteArray := { data := #[115, 104, 111, 114, 116, 32, 98, 117, 102, 102, 101, 114] }
abbrev eofS6 : ByteArray := { data := #[69, 79, 70] }
abbrev ueofS6 : ByteArray := { data := #[117, 110, 101, 120, 112, 101, 99, 116, 101, 100, 32, 69, 79, 70] }
noncomputable def low6 : Nat := (World.holding Tryd.prog default ⟨#[], #[], []⟩).heap.size
noncomputable def laidWorld6 (os : Os) : World :=
  let w0 := World.holding Tryd.prog os ⟨#[.cells #[.string shortS6] 124, .cells #[.string eofS6] 124, .cells #[.string ueofS6] 124,
    .cells #[.int .u32 16777232, .int .u32 16777234, .int .u32 16777236, .int .u32 16777238, .int .u32 33554456, .int .u32 33554460, .int .u32 50331680, .int .u32 50331688, .int .u32 67108912, .int .u32 100663360, .int .u32 117440640, .int .u32 134217984, .int .u32 150995456, .int .u32 167773184, .int .u32 184551424, .int .u32 201330688, .int .u32 218112000, .int .u32 234897408, .int .u32 251691008, .int .u32 268500992] 40, .cells #[.int .u32 16777251, .int .u32 16777253, .int .u32 16777255, .int .u32 16777257, .int .u32 33554475, .int .u32 33554479, .int .u32 50331699, .int .u32 50331707, .int .u32 67108931, .int .u32 67108947, .int .u32 83886179, .int .u32 117440643, .int .u32 134217987, .int .u32 150995459, .int .u32 167773187, .int .u32 184551427, .int .u32 201330691, .int .u32 218112003, .int .u32 234897411, .int .u32 251691011, .int .u32 268500995] 40], #[], []⟩
  { w0 with heap := ((((w0.heap.modify 3 fun
      | .cells _ t frozen => .cells #[.iface 122 (.pointer (some ⟨low6, 0, none⟩))] t frozen
      | o => o).modify 0 fun
      | .cells _ t frozen => .cells #[.iface 122 (.pointer (some ⟨low6 + 1, 0, none⟩))] t frozen
      | o => o).modify 1 fun
      | .cells _ t frozen => .cells #[.iface 122 (.pointer (some ⟨low6 + 2, 0, none⟩))] t frozen
      | o => o).modify 4 fun
      | .cells _ t frozen => .cells #[.slice (some ⟨low6 + 3, 0, none⟩) 20 20] t frozen
      | o => o).modify 5 fun
      | .cells _ t frozen => .cells #[.slice (some ⟨low6 + 4, 0, none⟩) 21 21] t frozen
      | o => o }
theorem laidWorld6_met (os : Os) (args : Array Value) : laidMet Tryd.prog laid6 ((laidWorld6 os).forCall (fun _ _ => 0) ⟨#[], args, []⟩).memory :=
  laidMet_of_run' 64 (by kernel_rfl) (by kernel_rfl)
theorem laid6H {W : World} : laidMetH Tryd.prog laid6 W ↔ laidMet Tryd.prog laid6 W := Iff.rfl
/-- .. where variables hold slices. -/
theorem lifted_of_trip6 {f : FuncId} {fn : Func} {s : ChangeSpec} {laid : List (String × DataW Unit)} (os : Os) (started : os.Started) (H : Type) (enc : TypeId × Value → H)
    (hvars : s.vars = []) (hfn : Tryd.prog.funcs[f]? = some fn) (hrt : fn.resultTypes = #[4]) (hi : Tryd.prog.inits.idxOf? f = none)
    (hpar : (fn.params.toList.all fun t => Tryd.prog.readableRec t && decide (t < Tryd.prog.types.size)) = true)
    (hspec : ∀ ds : List (DataW H), ds.length = fn.params.size → s.fn H (ds ++ []) = { results := [.lit (.bool true)], args := ds })
    (w0 : World) (args0 : Array Value) (fuel : Nat) (hos : w0.os = os)
    (hv : (w0.forCall (fun _ _ => 0) ⟨#[], args0, []⟩).variablesRefB Tryd.prog = true)
    (hr : ((w0.forCall (fun _ _ => 0) ⟨#[], args0, []⟩).heap.toList.drop Tryd.prog.globals.size).take ((begin Tryd.prog (fun _ _ => 0) default).world.heap.size - Tryd.prog.globals.size) =
      (begin Tryd.prog (fun _ _ => 0) default).world.heap.toList.drop Tryd.prog.globals.size)
    (hok : Input.okWideB Tryd.prog (w0.forCall (fun _ _ => 0) ⟨#[], args0, []⟩) f ⟨#[], args0, []⟩ = true)
    (hpre : s.preB enc Tryd.prog fn [] false (w0.forCall (fun _ _ => 0) ⟨#[], args0, []⟩).memory args0 fuel = true)
    (hsz : s.sizedB enc Tryd.prog fn false (w0.forCall (fun _ _ => 0) ⟨#[], args0, []⟩).memory args0 fuel = true)
    (hx : laidMetH Tryd.prog laid (w0.forCall (fun _ _ => 0) ⟨#[], args0, []⟩).memory)
    (trip : ∀ (W : World) (base : Nat) (args : Array Value) (ds : List (DataW H)) (p : List MemPlace),
      (∀ (j : Nat) t v, fn.params[j]? = some t → args[j]? = some v → Value.okWide Tryd.prog W .any base t v) →
      DataW.TrodAll enc Tryd.prog W 0 (fun _ => true) true fn.params.toList args.toList ds p → laidMetH Tryd.prog laid W →
      Trip Tryd.prog (heapG W.heap) f args [] (fun v _ => v = .bool true)) (fr : Bool) :
    ReturnsInHanded {} Tryd.checked os f .any (fun w args => (s.pre enc Tryd.prog fn [] false w args ∧ laidMetH Tryd.prog laid w) ∧ sizedMet enc Tryd.prog fn (OpenSpec.ofChange s) false w args)
      (s.post enc Tryd.prog fn false fr false false) := by
  refine returnsInHanded_of_change_and (C := Tryd.checked) (X := fun w _ => laidMetH Tryd.prog laid w) (fun _ _ _ hh h => h.of_heap hh) own_knob started hi hfn
    (ChangeSpec.witness_shaped (enc := enc) (C := Tryd.checked) (os := os) (X := fun w _ => laidMetH Tryd.prog laid w) false w0 args0 fuel hos (World.shaped_of_RefB hv hr) hok hpre hsz hx) ?_
  intro W base args ds gs before hval0 hW _ _ hL _
  have hW' := hW
  obtain ⟨p, q, hA0, hV0, rfl, hfz, hnd⟩ := hW
  rw [hvars] at hV0
  obtain ⟨rfl, rfl⟩ : gs = [] ∧ q = [] := by
    cases gs with
    | nil => exact ⟨rfl, hV0⟩
    | cons g r => exact absurd hV0 (by intro h; cases h)
  refine (calls_of_trip (trip W base args ds p hval0 hA0 hL)).mono fun e W' ⟨v, m, he, hb, hv⟩ => ?_
  subst he hv
  have hlen := (trodAll_length hA0).2
  have hsp := hspec ds (by rw [hlen]; simp)
  refine ⟨_, rfl, ds, [], p ++ [], [], p, [], hW', ?_, ?_, ?_, hb.frame _, fun h => by cases h⟩
  · rw [hsp, hrt]
    cases fr <;> exact trodAll_mk1 (shut_bool (u_bool (P := Tryd.prog) (T := 4) rfl) true)
  · rw [hsp]
    exact trodAll_below laidOut hb _ (fun t ht => by have := List.all_eq_true.1 hpar t ht; simp only [Bool.and_eq_true, decide_eq_true_eq] at this; exact this) hA0 fun x hx => hW'.lt x (List.mem_append.2 (.inl hx))
  · rw [hsp, hvars]; rfl
end Go.Proofs.YtogmacnlpclgkaaDoor
