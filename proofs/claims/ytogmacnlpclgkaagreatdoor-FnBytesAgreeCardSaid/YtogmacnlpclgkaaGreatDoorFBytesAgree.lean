/-
  For every list of bytes, every whole number, the law laws.FnBytesAgree returns true, and its arguments read afterwards as they read before (its package-level variables hold what the program's text lays in them).
  Conditions: none beyond those of the given card.
-/
import Derived.Test.YtogmacnlpclgkaaGreatDoorCards
import Derived.Test.YtogmacnlpclgkaaGreatDoorZL8KBytesAgree
set_option linter.all false
namespace Go.Proofs.YtogmacnlpclgkaaGreatDoor
open Go Go.Eng Go.ChangeShapes Go.WideShapes Go.RowKit
set_option maxRecDepth 100000
theorem fnBytesAgree_lifted (os:Os) (started:os.Started) (H:Type) (enc:TypeId×Value->H) :
  ReturnsInHanded {} Tryz.checked os 10 .any (fun w args=>(Rows.fnBytesAgreeSpec.pre enc Tryz.prog Tryz.f10 [] false w args/\laidMetH Tryz.prog ew w)/\sizedMet enc Tryz.prog Tryz.f10 (OpenSpec.ofChange Rows.fnBytesAgreeSpec) false w args)
   (Rows.fnBytesAgreeSpec.post enc Tryz.prog Tryz.f10 false true false false):=by
 refine cy (f:=10) (fn:=Tryz.f10) (s:=Rows.fnBytesAgreeSpec) (laid:=ew) os started H enc rfl Tryz.func10 rfl (by kernel_rfl) (by kernel_rfl) ?_
  (dN os) #[.slice none 0 0,.int .i64 0] 8 rfl (by kernel_rfl) (by kernel_rfl) (by kernel_rfl) (by kernel_rfl) (by kernel_rfl) (cW.2 (cM os _)) ?_ true
 ·intro u h
  match u,h with
  | [d,e],_=>rfl
 ·intro W base args u p g hA y;obtain⟨S,_⟩:=eA (eC (cW.1 y))
  have J:=eT (cW.1 y)
  obtain⟨F,C,M,U,p0,p1,rfl,rfl,-,h0,B⟩:=trodAll_two (t:=22) (t':=3) hA
  obtain⟨z,K,I,O,rfl,i,r,_⟩:=cv (eR (P:=Tryz.prog) (T:=22) (e:=5) rfl) (ef (P:=Tryz.prog) (T:=5) (k:=.u8) rfl) (by kernel_rfl) (g 0 22 F rfl rfl) h0
  obtain⟨l,rfl,-,-,q⟩:=open_int (ef (P:=Tryz.prog) (T:=3) (k:=.i64) rfl) (g 1 3 C rfl rfl) B
  have j : -(2^63)<=l/\l<2^63:=by
   simp[Lit.wf,IntKind.min,IntKind.max,IntKind.signed,IntKind.bits] at q
   omega
  exact tn S J i z I r l j
theorem fnBytesAgree_holds:Rows.FnBytesAgreeSaid :=
 OpenClaim.holds_of_wide 10 Tryz.f10 rfl rfl rfl rfl rfl rfl rfl ⟨rfl,rfl,rfl,rfl,rfl⟩ rfl rfl rfl rfl rfl (by kernel_rfl) Tryz.func10 (by kernel_rfl)
  (of_decide_eq_true (by kernel_rfl)) (by unfold Func.isWrapper;rw[ah (of_decide_eq_false (by kernel_rfl))];exact⟨rfl,rfl⟩)
  (fun os started H enc _=>fnBytesAgree_lifted os started H enc)
theorem fnBytesAgree_card:Rows.FnBytesAgreeCardSaid :=
 Claim7.holds_tied_plain_at .later [] [.sentinel,.sentinel,.sentinel,.data,.data,.data] true (true,"a4e2d0f8ca07f40ee442c0488ba0ea123c14fabc3d6a6377cb6edbf0ffac5576") true
  fnBytesAgree_holds (fun _ h=>by cases h) (by kernel_rfl) (fun _ h=>by cases h) fnBytesAgree_row_tie rfl ⟨rfl,rfl⟩ (by kernel_rfl) rfl
  (fun f fn hf g=>by
   obtain rfl:f=10:=Option.some.inj ((show Tryz.prog.funcNamed "framesunpacked/laws.FnBytesAgree" = some 10 by kernel_rfl).symm.trans hf) |>.symm
   obtain rfl:fn=Tryz.f10:=(Option.some.inj (Tryz.func10.symm.trans g)).symm
   exact⟨by kernel_rfl,fun j t ht=>by
    have i:t=22\/t=3:=by
     rcases j with _|_|j
     ·exact .inl (by simpa using(Option.some.inj ht).symm)
     ·exact .inr (by simpa using(Option.some.inj ht).symm)
     ·cases ht
    rcases i with rfl|rfl
    ·exact(show Tryz.prog.wantsStandIn 22=false by kernel_rfl)
    ·exact(show Tryz.prog.wantsStandIn 3=false by kernel_rfl)⟩)
  (by kernel_rfl)
#print axioms fnBytesAgree_card
end Go.Proofs.YtogmacnlpclgkaaGreatDoor
