/-
  For every list of bytes, every list of whole numbers, every list of bytes, the law laws.FnResetForgets returns true, and its arguments read afterwards as they read before (its package-level variables hold what the program's text lays in them).
  Conditions: none beyond those of the given card.
-/
import Derived.Test.YtogmacnlpclgkaaGreatDoorCards
import Derived.Test.YtogmacnlpclgkaaGreatDoorZL12KResetForgets
set_option linter.all false
namespace Go.Proofs.YtogmacnlpclgkaaGreatDoor
open Go Go.Eng Go.ChangeShapes Go.WideShapes Go.RowKit
set_option maxRecDepth 100000
theorem fnResetForgets_lifted (os:Os) (started:os.Started) (H:Type) (enc:TypeId×Value->H) :
  ReturnsInHanded {} Tryz.checked os 14 .any (fun w args=>(Rows.fnResetForgetsSpec.pre enc Tryz.prog Tryz.f14 [] false w args/\laidMetH Tryz.prog ew w)/\sizedMet enc Tryz.prog Tryz.f14 (OpenSpec.ofChange Rows.fnResetForgetsSpec) false w args)
   (Rows.fnResetForgetsSpec.post enc Tryz.prog Tryz.f14 false true false false):=by
 refine cy (f:=14) (fn:=Tryz.f14) (s:=Rows.fnResetForgetsSpec) (laid:=ew) os started H enc rfl Tryz.func14 rfl (by kernel_rfl) (by kernel_rfl) ?_
  (dN os) #[.slice none 0 0,.slice none 0 0,.slice none 0 0] 8 rfl (by kernel_rfl) (by kernel_rfl) (by kernel_rfl) (by kernel_rfl) (by kernel_rfl) (cW.2 (cM os _)) ?_ true
 ·intro u i
  match u,i with
  | [d,e,f],_=>rfl
 ·intro W base args u p g hA y;obtain⟨S,_⟩:=eA (eC (cW.1 y))
  have hV:=eT (cW.1 y)
  obtain⟨v0,K,V,d0,d1,d2,p0,p1,p2,rfl,rfl,-,h0,J,z⟩:=trodAll_three (t:=22) (t':=27) (t'':=22) hA
  obtain⟨Y,na,O,xa,rfl,l,j,_⟩:=cv (eR (P:=Tryz.prog) (T:=22) (e:=5) rfl) (ef (P:=Tryz.prog) (T:=5) (k:=.u8) rfl) (by kernel_rfl) (g 0 22 v0 rfl rfl) h0
  obtain⟨M,F,U,I,rfl,q,_⟩:=gD (eR (P:=Tryz.prog) (T:=27) (e:=3) rfl) (ef (P:=Tryz.prog) (T:=3) (k:=.i64) rfl) (by kernel_rfl) (g 1 27 K rfl rfl) J
  obtain⟨C,nc,B,xc,rfl,r,h,_⟩:=cv (eR (P:=Tryz.prog) (T:=22) (e:=5) rfl) (ef (P:=Tryz.prog) (T:=5) (k:=.u8) rfl) (by kernel_rfl) (g 2 22 V rfl rfl) z
  exact qw S hV l Y O j M F U I q r C B h
theorem fnResetForgets_holds:Rows.FnResetForgetsSaid :=
 OpenClaim.holds_of_wide 14 Tryz.f14 rfl rfl rfl rfl rfl rfl rfl ⟨rfl,rfl,rfl,rfl,rfl⟩ rfl rfl rfl rfl rfl (by kernel_rfl) Tryz.func14 (by kernel_rfl)
  (of_decide_eq_true (by kernel_rfl)) (by unfold Func.isWrapper;rw[ah (of_decide_eq_false (by kernel_rfl))];exact⟨rfl,rfl⟩)
  (fun os started H enc _=>fnResetForgets_lifted os started H enc)
theorem fnResetForgets_card:Rows.FnResetForgetsCardSaid :=
 Claim7.holds_tied_plain_at .later [] [.sentinel,.sentinel,.sentinel,.data,.data,.data] true (true,"a4e2d0f8ca07f40ee442c0488ba0ea123c14fabc3d6a6377cb6edbf0ffac5576") true
  fnResetForgets_holds (fun _ h=>by cases h) (by kernel_rfl) (fun _ h=>by cases h) fnResetForgets_row_tie rfl ⟨rfl,rfl⟩ (by kernel_rfl) rfl
  (fun f fn hf g=>by
   obtain rfl:f=14:=Option.some.inj ((show Tryz.prog.funcNamed "framesunpacked/laws.FnResetForgets" = some 14 by kernel_rfl).symm.trans hf) |>.symm
   obtain rfl:fn=Tryz.f14:=(Option.some.inj (Tryz.func14.symm.trans g)).symm
   exact⟨by kernel_rfl,fun j t ht=>by
    have i:t=22\/t=27\/t=22:=by
     rcases j with _|_|_|j
     ·exact .inl (by simpa using(Option.some.inj ht).symm)
     ·exact .inr (.inl (by simpa using(Option.some.inj ht).symm))
     ·exact .inr (.inr (by simpa using(Option.some.inj ht).symm))
     ·cases ht
    rcases i with rfl|rfl|rfl
    ·exact(show Tryz.prog.wantsStandIn 22=false by kernel_rfl)
    ·exact(show Tryz.prog.wantsStandIn 27=false by kernel_rfl)
    ·exact(show Tryz.prog.wantsStandIn 22=false by kernel_rfl)⟩)
  (by kernel_rfl)
#print axioms fnResetForgets_card
end Go.Proofs.YtogmacnlpclgkaaGreatDoor
