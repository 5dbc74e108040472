/-
  For every list of bytes, every list of whole numbers, the law laws.FnSlowAgrees returns true, and its arguments read afterwards as they read before (its package-level variables hold what the program's text lays in them).
  Conditions: none beyond those of the given card.
-/
import Derived.Test.YtogmacnlpclgkaaGreatDoorCards
import Derived.Test.YtogmacnlpclgkaaGreatDoorZL11KSlowAgrees
set_option linter.all false
namespace Go.Proofs.YtogmacnlpclgkaaGreatDoor
open Go Go.Eng Go.ChangeShapes Go.WideShapes Go.RowKit
set_option maxRecDepth 100000
theorem fnSlowAgrees_lifted (os:Os) (started:os.Started) (H:Type) (enc:TypeId×Value->H) :
  ReturnsInHanded {} Tryz.checked os 13 .any (fun w args=>(Rows.fnSlowAgreesSpec.pre enc Tryz.prog Tryz.f13 [] false w args/\laidMetH Tryz.prog ew w)/\sizedMet enc Tryz.prog Tryz.f13 (OpenSpec.ofChange Rows.fnSlowAgreesSpec) false w args)
   (Rows.fnSlowAgreesSpec.post enc Tryz.prog Tryz.f13 false true false false):=by
 refine cy (f:=13) (fn:=Tryz.f13) (s:=Rows.fnSlowAgreesSpec) (laid:=ew) os started H enc rfl Tryz.func13 rfl (by kernel_rfl) (by kernel_rfl) ?_
  (dN os) #[.slice none 0 0,.slice none 0 0] 8 rfl (by kernel_rfl) (by kernel_rfl) (by kernel_rfl) (by kernel_rfl) (by kernel_rfl) (cW.2 (cM os _)) ?_ true
 ·intro q h
  match q,h with
  | [d,e],_=>rfl
 ·intro W base args q p g hA r;obtain⟨S,_⟩:=eA (eC (cW.1 r))
  have M:=eT (cW.1 r)
  obtain⟨K,B,Y,U,p0,p1,rfl,rfl,-,h0,z⟩:=trodAll_two (t:=22) (t':=27) hA
  obtain⟨J,V,F,O,rfl,j,i,_⟩:=cv (eR (P:=Tryz.prog) (T:=22) (e:=5) rfl) (ef (P:=Tryz.prog) (T:=5) (k:=.u8) rfl) (by kernel_rfl) (g 0 22 K rfl rfl) h0
  obtain⟨C,u,I,y,rfl,l,_⟩:=gD (eR (P:=Tryz.prog) (T:=27) (e:=3) rfl) (ef (P:=Tryz.prog) (T:=3) (k:=.i64) rfl) (by kernel_rfl) (g 1 27 B rfl rfl) z
  exact tq S M j J F i C u I y l
theorem fnSlowAgrees_holds:Rows.FnSlowAgreesSaid :=
 OpenClaim.holds_of_wide 13 Tryz.f13 rfl rfl rfl rfl rfl rfl rfl ⟨rfl,rfl,rfl,rfl,rfl⟩ rfl rfl rfl rfl rfl (by kernel_rfl) Tryz.func13 (by kernel_rfl)
  (of_decide_eq_true (by kernel_rfl)) (by unfold Func.isWrapper;rw[ah (of_decide_eq_false (by kernel_rfl))];exact⟨rfl,rfl⟩)
  (fun os started H enc _=>fnSlowAgrees_lifted os started H enc)
theorem fnSlowAgrees_card:Rows.FnSlowAgreesCardSaid :=
 Claim7.holds_tied_plain_at .later [] [.sentinel,.sentinel,.sentinel,.data,.data,.data] true (true,"a4e2d0f8ca07f40ee442c0488ba0ea123c14fabc3d6a6377cb6edbf0ffac5576") true
  fnSlowAgrees_holds (fun _ h=>by cases h) (by kernel_rfl) (fun _ h=>by cases h) fnSlowAgrees_row_tie rfl ⟨rfl,rfl⟩ (by kernel_rfl) rfl
  (fun f fn hf g=>by
   obtain rfl:f=13:=Option.some.inj ((show Tryz.prog.funcNamed "framesunpacked/laws.FnSlowAgrees" = some 13 by kernel_rfl).symm.trans hf) |>.symm
   obtain rfl:fn=Tryz.f13:=(Option.some.inj (Tryz.func13.symm.trans g)).symm
   exact⟨by kernel_rfl,fun j t ht=>by
    have i:t=22\/t=27:=by
     rcases j with _|_|j
     ·exact .inl (by simpa using(Option.some.inj ht).symm)
     ·exact .inr (by simpa using(Option.some.inj ht).symm)
     ·cases ht
    rcases i with rfl|rfl
    ·exact(show Tryz.prog.wantsStandIn 22=false by kernel_rfl)
    ·exact(show Tryz.prog.wantsStandIn 27=false by kernel_rfl)⟩)
  (by kernel_rfl)
#print axioms fnSlowAgrees_card
end Go.Proofs.YtogmacnlpclgkaaGreatDoor
