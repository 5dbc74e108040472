/-
  For every list of bytes, the law laws.FnRead returns true, and its arguments read afterwards as they read before (its package-level variables hold what the program's text lays in them).
  Conditions: none beyond those of the given card.
-/
import Derived.Test.YtogmacnlpclgkaaGreatDoorCards
import Derived.Test.YtogmacnlpclgkaaGreatDoorX37
set_option linter.all false
namespace Go.Proofs.YtogmacnlpclgkaaGreatDoor
open Go Go.Eng Go.ChangeShapes Go.WideShapes Go.RowKit
set_option maxRecDepth 100000
theorem fnRead_lifted (os:Os) (started:os.Started) (H:Type) (enc:TypeId×Value->H) :
  ReturnsInHanded {} Tryz.checked os 8 .any (fun w args=>(Rows.fnReadSpec.pre enc Tryz.prog Tryz.f8 [] false w args/\laidMetH Tryz.prog ew w)/\sizedMet enc Tryz.prog Tryz.f8 (OpenSpec.ofChange Rows.fnReadSpec) false w args)
   (Rows.fnReadSpec.post enc Tryz.prog Tryz.f8 false true false false):=by
 refine cy (f:=8) (fn:=Tryz.f8) (s:=Rows.fnReadSpec) (laid:=ew) os started H enc rfl Tryz.func8 rfl (by kernel_rfl) (by kernel_rfl) ?_
  (dN os) #[.slice none 0 0] 8 rfl (by kernel_rfl) (by kernel_rfl) (by kernel_rfl) (by kernel_rfl) (by kernel_rfl) (cW.2 (cM os _)) ?_ true
 ·intro l h
  match l,h with
  | [d],_=>rfl
 ·intro W base args l p g hA q;obtain⟨S,_⟩:=eA (eC (cW.1 q))
  have u:=eT (cW.1 q)
  obtain⟨y,C,rfl,rfl,h0⟩:=trodAll_one (t:=22) hA
  obtain⟨r,B,z,F,rfl,i,j,_⟩:=cv (eR (P:=Tryz.prog) (T:=22) (e:=5) rfl) (ef (P:=Tryz.prog) (T:=5) (k:=.u8) rfl) (by kernel_rfl) (g 0 22 y rfl rfl) h0
  exact xT S u i r z j
theorem fnRead_holds:Rows.FnReadSaid :=
 OpenClaim.holds_of_wide 8 Tryz.f8 rfl rfl rfl rfl rfl rfl rfl ⟨rfl,rfl,rfl,rfl,rfl⟩ rfl rfl rfl rfl rfl (by kernel_rfl) Tryz.func8 (by kernel_rfl)
  (of_decide_eq_true (by kernel_rfl)) (by unfold Func.isWrapper;rw[ah (of_decide_eq_false (by kernel_rfl))];exact⟨rfl,rfl⟩)
  (fun os started H enc _=>fnRead_lifted os started H enc)
theorem fnRead_card:Rows.FnReadCardSaid :=
 Claim7.holds_tied_plain_at .later [] [.sentinel,.sentinel,.sentinel,.data,.data,.data] true (true,"a4e2d0f8ca07f40ee442c0488ba0ea123c14fabc3d6a6377cb6edbf0ffac5576") true
  fnRead_holds (fun _ h=>by cases h) (by kernel_rfl) (fun _ h=>by cases h) fnRead_row_tie rfl ⟨rfl,rfl⟩ (by kernel_rfl) rfl
  (fun f fn hf g=>by
   obtain rfl:f=8:=Option.some.inj ((show Tryz.prog.funcNamed "framesunpacked/laws.FnRead" = some 8 by kernel_rfl).symm.trans hf) |>.symm
   obtain rfl:fn=Tryz.f8:=(Option.some.inj (Tryz.func8.symm.trans g)).symm
   exact⟨by kernel_rfl,fun j t ht=>by
    have i:t=22:=by
     rcases j with _|j
     ·simpa using(Option.some.inj ht).symm
     ·cases j<;>cases ht
    subst i;exact(show Tryz.prog.wantsStandIn 22=false by kernel_rfl)⟩)
  (by kernel_rfl)
#print axioms fnRead_card
end Go.Proofs.YtogmacnlpclgkaaGreatDoor
