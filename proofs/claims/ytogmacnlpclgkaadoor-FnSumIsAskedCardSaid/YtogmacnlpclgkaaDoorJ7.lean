/-
  For every list of bytes and every number of 32 bits, the law laws.FnSumIsAsked returns true, and both read afterwards as they read before (its package-level variables hold what the program's text lays in them).
  Conditions: none beyond those of the given card.
-/
import Derived.Test.YtogmacnlpclgkaaDoorJ5
import Derived.Test.YtogmacnlpclgkaaDoorW34
import Derived.Test.YtogmacnlpclgkaaDoorCards
namespace Go.Proofs.YtogmacnlpclgkaaDoor
open Go Go.Eng Go.ChangeShapes Go.WideShapes Go.RowKit
set_option maxRecDepth 100000

theorem fnSum_lifted (os : Os) (started : os.Started) (H : Type) (enc : TypeId × Value → H) :
    ReturnsInHanded {} Tryd.checked os 5 .any (fun w args => (Rows.fnSumIsAskedSpec.pre enc Tryd.prog Tryd.f5 [] false w args ∧ laidMetH Tryd.prog laid6 w) ∧ sizedMet enc Tryd.prog Tryd.f5 (OpenSpec.ofChange Rows.fnSumIsAskedSpec) false w args)
      (Rows.fnSumIsAskedSpec.post enc Tryd.prog Tryd.f5 false true false false) := by
  refine lifted_of_trip6 (f := 5) (fn := Tryd.f5) (s := Rows.fnSumIsAskedSpec) (laid := laid6) os started H enc rfl Tryd.func5 rfl (by kernel_rfl) (by kernel_rfl) ?_
    (laidWorld6 os) #[.slice none 0 0, .int .u32 0] 8 rfl (by kernel_rfl) (by kernel_rfl) (by kernel_rfl) (by kernel_rfl) (by kernel_rfl) (laid6H.2 (laidWorld6_met os _)) ?_ true
  · intro ds hds
    match ds, hds with
    | [d, e], _ => rfl
  · intro W base args ds p hval hA hL
    obtain ⟨S, fb, h1, h2, h3⟩ := laid_sent (laid6_to4 (laid6H.1 hL))
    obtain ⟨v0, v1, d0, d1, p0, p1, rfl, rfl, -, h0, h4⟩ := trodAll_two (t := 22) (t' := 40) hA
    obtain ⟨oa, n, cp, x, rfl, hx, hv, _⟩ := view_of_trod (u_sl (P := Tryd.prog) (T := 22) (e := 5) rfl) (u_int (P := Tryd.prog) (T := 5) (k := .u8) rfl) (by kernel_rfl) (hval 0 22 v0 rfl rfl) h0
    obtain ⟨z, rfl, -, -, hwf⟩ := open_int (u_int (P := Tryd.prog) (T := 40) (k := .u32) rfl) (hval 1 40 v1 rfl rfl) h4
    obtain ⟨y, hy, rfl⟩ : ∃ y : Nat, y < 4294967296 ∧ z = ((y : Nat) : Int) := by
      simp [Lit.wf, IntKind.min, IntKind.max, IntKind.signed, IntKind.bits] at hwf
      exact ⟨z.toNat, by omega, by omega⟩
    exact fnSum_t S oa n cp x hx hv y hy fb h1 h2 h3

theorem fnSum_holds : Rows.FnSumIsAskedSaid :=
  OpenClaim.holds_of_wide 5 Tryd.f5 rfl rfl rfl rfl rfl rfl rfl ⟨rfl, rfl, rfl, rfl, rfl⟩ rfl rfl rfl rfl rfl (by kernel_rfl) Tryd.func5 (by kernel_rfl)
    (of_decide_eq_true (by kernel_rfl)) (by unfold Func.isWrapper; rw [if_neg (of_decide_eq_false (by kernel_rfl))]; exact ⟨rfl, rfl⟩)
    (fun os started H enc _ => fnSum_lifted os started H enc)

theorem fnSum_card : Rows.FnSumIsAskedCardSaid :=
  Claim7.holds_tied_plain_at .later [] [.sentinel, .sentinel, .sentinel, .data, .data, .data] true (true, "59fc913065b2ede9d5caa0010520e724d3c07c3a3d9228de2456e40b903ab901") true
    fnSum_holds (fun _ h => by cases h) (by kernel_rfl) (fun _ h => by cases h) fnSumIsAsked_row_tie rfl ⟨rfl, rfl⟩ (by kernel_rfl) rfl
    (fun f fn hf hfn => by
      obtain rfl : f = 5 := Option.some.inj ((show Tryd.prog.funcNamed "framesunpacked/laws.FnSumIsAsked" = some 5 by kernel_rfl).symm.trans hf) |>.symm
      obtain rfl : fn = Tryd.f5 := (Option.some.inj (Tryd.func5.symm.trans hfn)).symm
      exact ⟨by kernel_rfl, fun j t ht => by
        have h3 : t = 22 ∨ t = 40 := by
          rcases j with _ | _ | j
          · exact .inl (by simpa using (Option.some.inj ht).symm)
          · exact .inr (by simpa using (Option.some.inj ht).symm)
          · cases ht
        rcases h3 with rfl | rfl
        · exact (show Tryd.prog.wantsStandIn 22 = false by kernel_rfl)
        · exact (show Tryd.prog.wantsStandIn 40 = false by kernel_rfl)⟩)
    (by kernel_rfl)
#print axioms fnSum_card
end Go.Proofs.YtogmacnlpclgkaaDoor
