/-
  For every list of bytes, the law laws.FnHeader returns true, and the list reads afterwards as it read before (its package-level variables hold what the program's text lays in them).
  Conditions: none beyond those of the given card.
-/
import Derived.Test.YtogmacnlpclgkaaDoorJ2
import Derived.Test.YtogmacnlpclgkaaDoorW12
import Derived.Test.YtogmacnlpclgkaaDoorCards
namespace Go.Proofs.YtogmacnlpclgkaaDoor
open Go Go.Eng Go.ChangeShapes Go.WideShapes Go.RowKit
set_option maxRecDepth 100000

abbrev shortS : ByteArray := { data := #[115, 104, 111, 114, 116, 32, 98, 117, 102, 102, 101, 114] }
abbrev eofS : ByteArray := { data := #[69, 79, 70] }
abbrev ueofS : ByteArray := { data := #[117, 110, 101, 120, 112, 101, 99, 116, 101, 100, 32, 69, 79, 70] }
noncomputable def low : Nat := (World.holding Tryd.prog default ⟨#[], #[], []⟩).heap.size
noncomputable def laidWorld (os : Os) : World :=
  let w0 := World.holding Tryd.prog os ⟨#[.cells #[.string shortS] 124, .cells #[.string eofS] 124, .cells #[.string ueofS] 124], #[], []⟩
  { w0 with heap := ((w0.heap.modify 3 fun
      | .cells _ t frozen => .cells #[.iface 122 (.pointer (some ⟨low, 0, none⟩))] t frozen
      | o => o).modify 0 fun
      | .cells _ t frozen => .cells #[.iface 122 (.pointer (some ⟨low + 1, 0, none⟩))] t frozen
      | o => o).modify 1 fun
      | .cells _ t frozen => .cells #[.iface 122 (.pointer (some ⟨low + 2, 0, none⟩))] t frozen
      | o => o }
theorem laidWorld_met (os : Os) (args : Array Value) : laidMet Tryd.prog laid4 ((laidWorld os).forCall (fun _ _ => 0) ⟨#[], args, []⟩).memory :=
  laidMet_of_run (ps := [.cell 3 0, .cell low 0, .cell 0 0, .cell (low + 1) 0, .cell 1 0, .cell (low + 2) 0, .cell 2 0]) 8 (by kernel_rfl) (by kernel_rfl) (by kernel_rfl)
theorem laid4H {W : World} : laidMetH Tryd.prog laid4 W ↔ laidMet Tryd.prog laid4 W := Iff.rfl

theorem header_lifted (os : Os) (started : os.Started) (H : Type) (enc : TypeId × Value → H) :
    ReturnsInHanded {} Tryd.checked os 3 .any (fun w args => (Rows.fnHeaderSpec.pre enc Tryd.prog Tryd.f3 [] false w args ∧ laidMetH Tryd.prog laid4 w) ∧ sizedMet enc Tryd.prog Tryd.f3 (OpenSpec.ofChange Rows.fnHeaderSpec) false w args)
      (Rows.fnHeaderSpec.post enc Tryd.prog Tryd.f3 false true false false) := by
  refine lifted_of_trip (f := 3) (fn := Tryd.f3) (s := Rows.fnHeaderSpec) (laid := laid4) os started H enc rfl Tryd.func3 rfl (by kernel_rfl) (by kernel_rfl) ?_
    (laidWorld os) #[.slice none 0 0] 8 rfl (by kernel_rfl) (by kernel_rfl) (by kernel_rfl) (by kernel_rfl) (by kernel_rfl) (laid4H.2 (laidWorld_met os _)) ?_ true
  · intro ds hds
    match ds, hds with
    | [d], _ => rfl
  · intro W base args ds p hval hA hL
    obtain ⟨S, fb, h1, h2, h3⟩ := laid_sent (laid4H.1 hL)
    obtain ⟨v0, d0, rfl, rfl, h0⟩ := trodAll_one (t := 22) hA
    obtain ⟨oa, n, cp, x, rfl, hx, hv, _⟩ := view_of_trod (u_sl (P := Tryd.prog) (T := 22) (e := 5) rfl) (u_int (P := Tryd.prog) (T := 5) (k := .u8) rfl) (by kernel_rfl) (hval 0 22 v0 rfl rfl) h0
    exact fnHeader_t S oa n cp x hx hv fb h1 h2 h3

theorem fnHeader_holds : Rows.FnHeaderSaid :=
  OpenClaim.holds_of_wide 3 Tryd.f3 rfl rfl rfl rfl rfl rfl rfl ⟨rfl, rfl, rfl, rfl, rfl⟩ rfl rfl rfl rfl rfl (by kernel_rfl) Tryd.func3 (by kernel_rfl)
    (of_decide_eq_true (by kernel_rfl)) (by unfold Func.isWrapper; rw [if_neg (of_decide_eq_false (by kernel_rfl))]; exact ⟨rfl, rfl⟩)
    (fun os started H enc _ => header_lifted os started H enc)

theorem fnHeader_card : Rows.FnHeaderCardSaid :=
  Claim7.holds_tied_plain_at .later [] [.sentinel, .sentinel, .sentinel, .data] true (true, "59fc913065b2ede9d5caa0010520e724d3c07c3a3d9228de2456e40b903ab901") true
    fnHeader_holds (fun _ h => by cases h) (by kernel_rfl) (fun _ h => by cases h) fnHeader_row_tie rfl ⟨rfl, rfl⟩ (by kernel_rfl) rfl
    (fun f fn hf hfn => by
      obtain rfl : f = 3 := Option.some.inj ((show Tryd.prog.funcNamed "framesunpacked/laws.FnHeader" = some 3 by kernel_rfl).symm.trans hf) |>.symm
      obtain rfl : fn = Tryd.f3 := (Option.some.inj (Tryd.func3.symm.trans hfn)).symm
      exact ⟨by kernel_rfl, fun j t ht => by
        have h3 : t = 22 := by
          rcases j with _ | j
          · simpa using (Option.some.inj ht).symm
          · cases j <;> cases ht
        subst h3
        exact (show Tryd.prog.wantsStandIn 22 = false by kernel_rfl)⟩)
    (by kernel_rfl)
#print axioms fnHeader_card
end Go.Proofs.YtogmacnlpclgkaaDoor
