/-
  For every list of bytes, every whole number, every list of bytes, the law laws.FnSkippedAddsNothing returns true, and its arguments read afterwards as they read before (its package-level variables hold what the program's text lays in them).
  Conditions: none beyond those of the given card.
-/
import Derived.Test.YtogmacnlpclgkaaGreatDoorCards
import Derived.Test.YtogmacnlpclgkaaGreatDoorZL6KSkippedAddsNothing
set_option linter.all false
namespace Go.Proofs.YtogmacnlpclgkaaGreatDoor
open Go Go.Eng Go.ChangeShapes Go.WideShapes Go.RowKit
set_option maxRecDepth 100000
theorem fnSkippedAddsNothing_lifted (os:Os) (started:os.Started) (H:Type) (enc:TypeId×Value->H) :
  ReturnsInHanded {} Tryz.checked os 9 .any (fun w args=>(Rows.fnSkippedAddsNothingSpec.pre enc Tryz.prog Tryz.f9 [] false w args/\laidMetH Tryz.prog ew w)/\sizedMet enc Tryz.prog Tryz.f9 (OpenSpec.ofChange Rows.fnSkippedAddsNothingSpec) false w args)
   (Rows.fnSkippedAddsNothingSpec.post enc Tryz.prog Tryz.f9 false true false false):=by
 refine cy (f:=9) (fn:=Tryz.f9) (s:=Rows.fnSkippedAddsNothingSpec) (laid:=ew) os started H enc rfl Tryz.func9 rfl (by kernel_rfl) (by kernel_rfl) ?_
  (dN os) #[.slice none 0 0,.int .i64 0,.slice none 0 0] 8 rfl (by kernel_rfl) (by kernel_rfl) (by kernel_rfl) (by kernel_rfl) (by kernel_rfl) (cW.2 (cM os _)) ?_ true
 ·intro z i
  match z,i with
  | [d,e,f],_=>rfl
 ·intro W base args z p g hA B;obtain⟨S,_⟩:=eA (eC (cW.1 B))
  have Y:=eT (cW.1 B)
  obtain⟨V,K,O,d0,d1,d2,p0,p1,p2,rfl,rfl,-,h0,J,C⟩:=trodAll_three (t:=22) (t':=3) (t'':=22) hA
  obtain⟨U,na,M,xa,rfl,r,q,_⟩:=cv (eR (P:=Tryz.prog) (T:=22) (e:=5) rfl) (ef (P:=Tryz.prog) (T:=5) (k:=.u8) rfl) (by kernel_rfl) (g 0 22 V rfl rfl) h0
  obtain⟨j,rfl,-,-,l⟩:=open_int (ef (P:=Tryz.prog) (T:=3) (k:=.i64) rfl) (g 1 3 K rfl rfl) J
  have u : -(2^63)<=j/\j<2^63:=by
   simp[Lit.wf,IntKind.min,IntKind.max,IntKind.signed,IntKind.bits] at l
   omega
  obtain⟨I,nc,F,xc,rfl,y,h,_⟩:=cv (eR (P:=Tryz.prog) (T:=22) (e:=5) rfl) (ef (P:=Tryz.prog) (T:=5) (k:=.u8) rfl) (by kernel_rfl) (g 2 22 O rfl rfl) C
  exact lR S Y r U M q j u y I F h
theorem fnSkippedAddsNothing_holds:Rows.FnSkippedAddsNothingSaid :=
 OpenClaim.holds_of_wide 9 Tryz.f9 rfl rfl rfl rfl rfl rfl rfl ⟨rfl,rfl,rfl,rfl,rfl⟩ rfl rfl rfl rfl rfl (by kernel_rfl) Tryz.func9 (by kernel_rfl)
  (of_decide_eq_true (by kernel_rfl)) (by unfold Func.isWrapper;rw[ah (of_decide_eq_false (by kernel_rfl))];exact⟨rfl,rfl⟩)
  (fun os started H enc _=>fnSkippedAddsNothing_lifted os started H enc)
theorem fnSkippedAddsNothing_card:Rows.FnSkippedAddsNothingCardSaid :=
 Claim7.holds_tied_plain_at .later [] [.sentinel,.sentinel,.sentinel,.data,.data,.data] true (true,"a4e2d0f8ca07f40ee442c0488ba0ea123c14fabc3d6a6377cb6edbf0ffac5576") true
  fnSkippedAddsNothing_holds (fun _ h=>by cases h) (by kernel_rfl) (fun _ h=>by cases h) fnSkippedAddsNothing_row_tie rfl ⟨rfl,rfl⟩ (by kernel_rfl) rfl
  (fun f fn hf g=>by
   obtain rfl:f=9:=Option.some.inj ((show Tryz.prog.funcNamed "framesunpacked/laws.FnSkippedAddsNothing" = some 9 by kernel_rfl).symm.trans hf) |>.symm
   obtain rfl:fn=Tryz.f9:=(Option.some.inj (Tryz.func9.symm.trans g)).symm
   exact⟨by kernel_rfl,fun j t ht=>by
    have i:t=22\/t=3\/t=22:=by
     rcases j with _|_|_|j
     ·exact .inl (by simpa using(Option.some.inj ht).symm)
     ·exact .inr (.inl (by simpa using(Option.some.inj ht).symm))
     ·exact .inr (.inr (by simpa using(Option.some.inj ht).symm))
     ·cases ht
    rcases i with rfl|rfl|rfl
    ·exact(show Tryz.prog.wantsStandIn 22=false by kernel_rfl)
    ·exact(show Tryz.prog.wantsStandIn 3=false by kernel_rfl)
    ·exact(show Tryz.prog.wantsStandIn 22=false by kernel_rfl)⟩)
  (by kernel_rfl)
#print axioms fnSkippedAddsNothing_card
end Go.Proofs.YtogmacnlpclgkaaGreatDoor
