/-
  For every list of bytes and every list of whole numbers, the law laws.FnAnyBytesEnd returns true, and both read afterwards as they read before (its package-level variables hold what the program's text lays in them).
  Conditions: none beyond those of the given card.
-/
import Derived.Test.YtogmacnlpclgkaaDoorK39
import Derived.Test.YtogmacnlpclgkaaDoorK40
import Derived.Test.YtogmacnlpclgkaaDoorCards
namespace Go.Proofs.YtogmacnlpclgkaaDoor
open Go Go.Eng Go.ChangeShapes Go.WideShapes Go.RowKit
set_option maxRecDepth 100000

theorem fnAny_lifted (os : Os) (started : os.Started) (H : Type) (enc : TypeId × Value → H) :
    ReturnsInHanded {} Tryd.checked os 6 .any (fun w args => (Rows.fnAnyBytesEndSpec.pre enc Tryd.prog Tryd.f6 [] false w args ∧ laidMetH Tryd.prog laid6 w) ∧ sizedMet enc Tryd.prog Tryd.f6 (OpenSpec.ofChange Rows.fnAnyBytesEndSpec) false w args)
      (Rows.fnAnyBytesEndSpec.post enc Tryd.prog Tryd.f6 false true false false) := by
  refine lifted_of_trip6 (f := 6) (fn := Tryd.f6) (s := Rows.fnAnyBytesEndSpec) (laid := laid6) os started H enc rfl Tryd.func6 rfl (by kernel_rfl) (by kernel_rfl) ?_
    (laidWorld6 os) #[.slice none 0 0, .slice none 0 0] 8 rfl (by kernel_rfl) (by kernel_rfl) (by kernel_rfl) (by kernel_rfl) (by kernel_rfl) (laid6H.2 (laidWorld6_met os _)) ?_ true
  · intro ds hds
    match ds, hds with
    | [d, e], _ => rfl
  · intro W base args ds p hval hA hL
    obtain ⟨S, _⟩ := laid_sent (laid6_to4 (laid6H.1 hL))
    have hV := laid_vars (laid6H.1 hL)
    obtain ⟨v0, v1, d0, d1, p0, p1, rfl, rfl, -, h0, h4⟩ := trodAll_two (t := 22) (t' := 34) hA
    obtain ⟨oa, n, cp, x, rfl, hx, hv, _⟩ := view_of_trod (u_sl (P := Tryd.prog) (T := 22) (e := 5) rfl) (u_int (P := Tryd.prog) (T := 5) (k := .u8) rfl) (by kernel_rfl) (hval 0 22 v0 rfl rfl) h0
    obtain ⟨ob, k, cq, z, rfl, hz, _⟩ := viewI_of_trod (u_sl (P := Tryd.prog) (T := 34) (e := 3) rfl) (u_int (P := Tryd.prog) (T := 3) (k := .i64) rfl) (by kernel_rfl) (hval 1 34 v1 rfl rfl) h4
    exact fnAny_t S hV hx oa cp hv ob k cq z hz

theorem fnAny_holds : Rows.FnAnyBytesEndSaid :=
  OpenClaim.holds_of_wide 6 Tryd.f6 rfl rfl rfl rfl rfl rfl rfl ⟨rfl, rfl, rfl, rfl, rfl⟩ rfl rfl rfl rfl rfl (by kernel_rfl) Tryd.func6 (by kernel_rfl)
    (of_decide_eq_true (by kernel_rfl)) (by unfold Func.isWrapper; rw [if_neg (of_decide_eq_false (by kernel_rfl))]; exact ⟨rfl, rfl⟩)
    (fun os started H enc _ => fnAny_lifted os started H enc)

theorem fnAny_card : Rows.FnAnyBytesEndCardSaid :=
  Claim7.holds_tied_plain_at .later [] [.sentinel, .sentinel, .sentinel, .data, .data, .data] true (true, "59fc913065b2ede9d5caa0010520e724d3c07c3a3d9228de2456e40b903ab901") true
    fnAny_holds (fun _ h => by cases h) (by kernel_rfl) (fun _ h => by cases h) fnAnyBytesEnd_row_tie rfl ⟨rfl, rfl⟩ (by kernel_rfl) rfl
    (fun f fn hf hfn => by
      obtain rfl : f = 6 := Option.some.inj ((show Tryd.prog.funcNamed "framesunpacked/laws.FnAnyBytesEnd" = some 6 by kernel_rfl).symm.trans hf) |>.symm
      obtain rfl : fn = Tryd.f6 := (Option.some.inj (Tryd.func6.symm.trans hfn)).symm
      exact ⟨by kernel_rfl, fun j t ht => by
        have h3 : t = 22 ∨ t = 34 := by
          rcases j with _ | _ | j
          · exact .inl (by simpa using (Option.some.inj ht).symm)
          · exact .inr (by simpa using (Option.some.inj ht).symm)
          · cases ht
        rcases h3 with rfl | rfl
        · exact (show Tryd.prog.wantsStandIn 22 = false by kernel_rfl)
        · exact (show Tryd.prog.wantsStandIn 34 = false by kernel_rfl)⟩)
    (by kernel_rfl)
#print axioms fnAny_card
end Go.Proofs.YtogmacnlpclgkaaDoor
