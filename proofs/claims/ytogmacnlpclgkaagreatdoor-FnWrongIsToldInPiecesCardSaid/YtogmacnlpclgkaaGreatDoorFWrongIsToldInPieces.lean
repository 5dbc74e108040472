/-
  For every list of bytes, every list of whole numbers, the law laws.FnWrongIsToldInPieces returns true, and its arguments read afterwards as they read before (its package-level variables hold what the program's text lays in them).
  Conditions: none beyond those of the given card.
-/
import Derived.Test.YtogmacnlpclgkaaGreatDoorCards
import Derived.Test.YtogmacnlpclgkaaGreatDoorZL10KWrongIsToldInPieces
set_option linter.all false
namespace Go.Proofs.YtogmacnlpclgkaaGreatDoor
open Go Go.Eng Go.ChangeShapes Go.WideShapes Go.RowKit
set_option maxRecDepth 100000
theorem fnWrongIsToldInPieces_lifted (os:Os) (started:os.Started) (H:Type) (enc:TypeId×Value->H) :
  ReturnsInHanded {} Tryz.checked os 12 .any (fun w args=>(Rows.fnWrongIsToldInPiecesSpec.pre enc Tryz.prog Tryz.f12 [] false w args/\laidMetH Tryz.prog ew w)/\sizedMet enc Tryz.prog Tryz.f12 (OpenSpec.ofChange Rows.fnWrongIsToldInPiecesSpec) false w args)
   (Rows.fnWrongIsToldInPiecesSpec.post enc Tryz.prog Tryz.f12 false true false false):=by
 refine cy (f:=12) (fn:=Tryz.f12) (s:=Rows.fnWrongIsToldInPiecesSpec) (laid:=ew) os started H enc rfl Tryz.func12 rfl (by kernel_rfl) (by kernel_rfl) ?_
  (dN os) #[.slice none 0 0,.slice none 0 0] 8 rfl (by kernel_rfl) (by kernel_rfl) (by kernel_rfl) (by kernel_rfl) (by kernel_rfl) (cW.2 (cM os _)) ?_ true
 ·intro q h
  match q,h with
  | [d,e],_=>rfl
 ·intro W base args q p g hA r;obtain⟨S,_⟩:=eA (eC (cW.1 r))
  have M:=eT (cW.1 r)
  obtain⟨K,B,Y,U,p0,p1,rfl,rfl,-,h0,z⟩:=trodAll_two (t:=22) (t':=27) hA
  obtain⟨J,V,F,O,rfl,j,i,_⟩:=cv (eR (P:=Tryz.prog) (T:=22) (e:=5) rfl) (ef (P:=Tryz.prog) (T:=5) (k:=.u8) rfl) (by kernel_rfl) (g 0 22 K rfl rfl) h0
  obtain⟨C,u,I,y,rfl,l,_⟩:=gD (eR (P:=Tryz.prog) (T:=27) (e:=3) rfl) (ef (P:=Tryz.prog) (T:=3) (k:=.i64) rfl) (by kernel_rfl) (g 1 27 B rfl rfl) z
  exact kZ S M j J F i C u I y l
theorem fnWrongIsToldInPieces_holds:Rows.FnWrongIsToldInPiecesSaid :=
 OpenClaim.holds_of_wide 12 Tryz.f12 rfl rfl rfl rfl rfl rfl rfl ⟨rfl,rfl,rfl,rfl,rfl⟩ rfl rfl rfl rfl rfl (by kernel_rfl) Tryz.func12 (by kernel_rfl)
  (of_decide_eq_true (by kernel_rfl)) (by unfold Func.isWrapper;rw[ah (of_decide_eq_false (by kernel_rfl))];exact⟨rfl,rfl⟩)
  (fun os started H enc _=>fnWrongIsToldInPieces_lifted os started H enc)
theorem fnWrongIsToldInPieces_card:Rows.FnWrongIsToldInPiecesCardSaid :=
 Claim7.holds_tied_plain_at .later [] [.sentinel,.sentinel,.sentinel,.data,.data,.data] true (true,"a4e2d0f8ca07f40ee442c0488ba0ea123c14fabc3d6a6377cb6edbf0ffac5576") true
  fnWrongIsToldInPieces_holds (fun _ h=>by cases h) (by kernel_rfl) (fun _ h=>by cases h) fnWrongIsToldInPieces_row_tie rfl ⟨rfl,rfl⟩ (by kernel_rfl) rfl
  (fun f fn hf g=>by
   obtain rfl:f=12:=Option.some.inj ((show Tryz.prog.funcNamed "framesunpacked/laws.FnWrongIsToldInPieces" = some 12 by kernel_rfl).symm.trans hf) |>.symm
   obtain rfl:fn=Tryz.f12:=(Option.some.inj (Tryz.func12.symm.trans g)).symm
   exact⟨by kernel_rfl,fun j t ht=>by
    have i:t=22\/t=27:=by
     rcases j with _|_|j
     ·exact .inl (by simpa using(Option.some.inj ht).symm)
     ·exact .inr (by simpa using(Option.some.inj ht).symm)
     ·cases ht
    rcases i with rfl|rfl
    ·exact(show Tryz.prog.wantsStandIn 22=false by kernel_rfl)
    ·exact(show Tryz.prog.wantsStandIn 27=false by kernel_rfl)⟩)
  (by kernel_rfl)
#print axioms fnWrongIsToldInPieces_card
end Go.Proofs.YtogmacnlpclgkaaGreatDoor
