/-
  For every list of bytes, every list of bytes, the law laws.FnBlock returns true, and its arguments read afterwards as they read before (its package-level variables hold what the program's text lays in them).
  Conditions: none beyond those of the given card.
-/
import Derived.Test.YtogmacnlpclgkaaGreatDoorCards
import Derived.Test.YtogmacnlpclgkaaGreatDoorZL2KBlock
set_option linter.all false
namespace Go.Proofs.YtogmacnlpclgkaaGreatDoor
open Go Go.Eng Go.ChangeShapes Go.WideShapes Go.RowKit
set_option maxRecDepth 100000
theorem fnBlock_lifted (os:Os) (started:os.Started) (H:Type) (enc:TypeId×Value->H) :
  ReturnsInHanded {} Tryz.checked os 3 .any (fun w args=>(Rows.fnBlockSpec.pre enc Tryz.prog Tryz.f3 [] false w args/\laidMetH Tryz.prog ew w)/\sizedMet enc Tryz.prog Tryz.f3 (OpenSpec.ofChange Rows.fnBlockSpec) false w args)
   (Rows.fnBlockSpec.post enc Tryz.prog Tryz.f3 false true false false):=by
 refine cy (f:=3) (fn:=Tryz.f3) (s:=Rows.fnBlockSpec) (laid:=ew) os started H enc rfl Tryz.func3 rfl (by kernel_rfl) (by kernel_rfl) ?_
  (dN os) #[.slice none 0 0,.slice none 0 0] 8 rfl (by kernel_rfl) (by kernel_rfl) (by kernel_rfl) (by kernel_rfl) (by kernel_rfl) (cW.2 (cM os _)) ?_ true
 ·intro r h
  match r,h with
  | [d,e],_=>rfl
 ·intro W base args r p g hA u;obtain⟨S,_⟩:=eA (eC (cW.1 u))
  have K:=eT (cW.1 u)
  obtain⟨J,z,Y,U,p0,p1,rfl,rfl,-,h0,y⟩:=trodAll_two (t:=22) (t':=22) hA
  obtain⟨I,V,C,M,rfl,q,j,_⟩:=cv (eR (P:=Tryz.prog) (T:=22) (e:=5) rfl) (ef (P:=Tryz.prog) (T:=5) (k:=.u8) rfl) (by kernel_rfl) (g 0 22 J rfl rfl) h0
  obtain⟨B,O,F,xb,rfl,l,i,_⟩:=cv (eR (P:=Tryz.prog) (T:=22) (e:=5) rfl) (ef (P:=Tryz.prog) (T:=5) (k:=.u8) rfl) (by kernel_rfl) (g 1 22 z rfl rfl) y
  exact Ck S K q I C j l B F i
theorem fnBlock_holds:Rows.FnBlockSaid :=
 OpenClaim.holds_of_wide 3 Tryz.f3 rfl rfl rfl rfl rfl rfl rfl ⟨rfl,rfl,rfl,rfl,rfl⟩ rfl rfl rfl rfl rfl (by kernel_rfl) Tryz.func3 (by kernel_rfl)
  (of_decide_eq_true (by kernel_rfl)) (by unfold Func.isWrapper;rw[ah (of_decide_eq_false (by kernel_rfl))];exact⟨rfl,rfl⟩)
  (fun os started H enc _=>fnBlock_lifted os started H enc)
theorem fnBlock_card:Rows.FnBlockCardSaid :=
 Claim7.holds_tied_plain_at .later [] [.sentinel,.sentinel,.sentinel,.data,.data,.data] true (true,"a4e2d0f8ca07f40ee442c0488ba0ea123c14fabc3d6a6377cb6edbf0ffac5576") true
  fnBlock_holds (fun _ h=>by cases h) (by kernel_rfl) (fun _ h=>by cases h) fnBlock_row_tie rfl ⟨rfl,rfl⟩ (by kernel_rfl) rfl
  (fun f fn hf g=>by
   obtain rfl:f=3:=Option.some.inj ((show Tryz.prog.funcNamed "framesunpacked/laws.FnBlock" = some 3 by kernel_rfl).symm.trans hf) |>.symm
   obtain rfl:fn=Tryz.f3:=(Option.some.inj (Tryz.func3.symm.trans g)).symm
   exact⟨by kernel_rfl,fun j t ht=>by
    have i:t=22\/t=22:=by
     rcases j with _|_|j
     ·exact .inl (by simpa using(Option.some.inj ht).symm)
     ·exact .inr (by simpa using(Option.some.inj ht).symm)
     ·cases ht
    rcases i with rfl|rfl
    ·exact(show Tryz.prog.wantsStandIn 22=false by kernel_rfl)
    ·exact(show Tryz.prog.wantsStandIn 22=false by kernel_rfl)⟩)
  (by kernel_rfl)
#print axioms fnBlock_card
end Go.Proofs.YtogmacnlpclgkaaGreatDoor
