/-
  For every list of bytes, every list of bytes, the law laws.FnFramesAddUp returns true, and its arguments read afterwards as they read before (its package-level variables hold what the program's text lays in them).
  Conditions: none beyond those of the given card.
-/
import Derived.Test.YtogmacnlpclgkaaGreatDoorCards
import Derived.Test.YtogmacnlpclgkaaGreatDoorZL5KFramesAddUp
set_option linter.all false
namespace Go.Proofs.YtogmacnlpclgkaaGreatDoor
open Go Go.Eng Go.ChangeShapes Go.WideShapes Go.RowKit
set_option maxRecDepth 100000
theorem fnFramesAddUp_lifted (os:Os) (started:os.Started) (H:Type) (enc:TypeId×Value->H) :
  ReturnsInHanded {} Tryz.checked os 6 .any (fun w args=>(Rows.fnFramesAddUpSpec.pre enc Tryz.prog Tryz.f6 [] false w args/\laidMetH Tryz.prog ew w)/\sizedMet enc Tryz.prog Tryz.f6 (OpenSpec.ofChange Rows.fnFramesAddUpSpec) false w args)
   (Rows.fnFramesAddUpSpec.post enc Tryz.prog Tryz.f6 false true false false):=by
 refine cy (f:=6) (fn:=Tryz.f6) (s:=Rows.fnFramesAddUpSpec) (laid:=ew) os started H enc rfl Tryz.func6 rfl (by kernel_rfl) (by kernel_rfl) ?_
  (dN os) #[.slice none 0 0,.slice none 0 0] 8 rfl (by kernel_rfl) (by kernel_rfl) (by kernel_rfl) (by kernel_rfl) (by kernel_rfl) (cW.2 (cM os _)) ?_ true
 ·intro r h
  match r,h with
  | [d,e],_=>rfl
 ·intro W base args r p g hA u;obtain⟨S,_⟩:=eA (eC (cW.1 u))
  have K:=eT (cW.1 u)
  obtain⟨J,z,Y,U,p0,p1,rfl,rfl,-,h0,y⟩:=trodAll_two (t:=22) (t':=22) hA
  obtain⟨I,V,C,M,rfl,q,j,_⟩:=cv (eR (P:=Tryz.prog) (T:=22) (e:=5) rfl) (ef (P:=Tryz.prog) (T:=5) (k:=.u8) rfl) (by kernel_rfl) (g 0 22 J rfl rfl) h0
  obtain⟨B,O,F,xb,rfl,l,i,_⟩:=cv (eR (P:=Tryz.prog) (T:=22) (e:=5) rfl) (ef (P:=Tryz.prog) (T:=5) (k:=.u8) rfl) (by kernel_rfl) (g 1 22 z rfl rfl) y
  exact rj S K q I C j l B F i
theorem fnFramesAddUp_holds:Rows.FnFramesAddUpSaid :=
 OpenClaim.holds_of_wide 6 Tryz.f6 rfl rfl rfl rfl rfl rfl rfl ⟨rfl,rfl,rfl,rfl,rfl⟩ rfl rfl rfl rfl rfl (by kernel_rfl) Tryz.func6 (by kernel_rfl)
  (of_decide_eq_true (by kernel_rfl)) (by unfold Func.isWrapper;rw[ah (of_decide_eq_false (by kernel_rfl))];exact⟨rfl,rfl⟩)
  (fun os started H enc _=>fnFramesAddUp_lifted os started H enc)
theorem fnFramesAddUp_card:Rows.FnFramesAddUpCardSaid :=
 Claim7.holds_tied_plain_at .later [] [.sentinel,.sentinel,.sentinel,.data,.data,.data] true (true,"a4e2d0f8ca07f40ee442c0488ba0ea123c14fabc3d6a6377cb6edbf0ffac5576") true
  fnFramesAddUp_holds (fun _ h=>by cases h) (by kernel_rfl) (fun _ h=>by cases h) fnFramesAddUp_row_tie rfl ⟨rfl,rfl⟩ (by kernel_rfl) rfl
  (fun f fn hf g=>by
   obtain rfl:f=6:=Option.some.inj ((show Tryz.prog.funcNamed "framesunpacked/laws.FnFramesAddUp" = some 6 by kernel_rfl).symm.trans hf) |>.symm
   obtain rfl:fn=Tryz.f6:=(Option.some.inj (Tryz.func6.symm.trans g)).symm
   exact⟨by kernel_rfl,fun j t ht=>by
    have i:t=22\/t=22:=by
     rcases j with _|_|j
     ·exact .inl (by simpa using(Option.some.inj ht).symm)
     ·exact .inr (by simpa using(Option.some.inj ht).symm)
     ·cases ht
    rcases i with rfl|rfl
    ·exact(show Tryz.prog.wantsStandIn 22=false by kernel_rfl)
    ·exact(show Tryz.prog.wantsStandIn 22=false by kernel_rfl)⟩)
  (by kernel_rfl)
#print axioms fnFramesAddUp_card
end Go.Proofs.YtogmacnlpclgkaaGreatDoor
