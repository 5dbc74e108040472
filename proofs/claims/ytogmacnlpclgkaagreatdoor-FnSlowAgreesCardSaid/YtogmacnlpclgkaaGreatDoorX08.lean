/- Texts 08. -/
import Derived.Carry
import Derived.ChangeSame
import Derived.ChangeVars
import Derived.JoinedOf
import Derived.LaidLaws
import Derived.OpenShut
import Derived.RowKit
import Derived.RowKitTokens
import Derived.Test.YtogmacnlpclgkaaGreatDoorRows
import Derived.ChangeCalls
import Derived.Test.YtogmacnlpclgkaaGreatDoorTie
import Derived.LaidSub
import Derived.Test.YtogmacnlpclgkaaGreatDoorX07
import Derived.Test.YtogmacnlpclgkaaGreatDoorXTab
set_option linter.all false
namespace Go.Eng
open Go Go.Proofs.YtogmacnlpclgkaaGreatDoor
structure wM (p:Prop):Prop where
 out:p
theorem el {a b:Nat} (h:a<b):Nat.blt a b=true:=by simpa[Nat.blt_eq] using h
theorem aS (A:Prop) {B:Prop} (k:B) (h:wM B->A:=by
  intro g
  repeat(refine gB (by conv=>lhs;whnf) ?_;first
   | (apply kt)
   | (apply mT;exact rfl;exact rfl;(focus ((repeat constructor);done));(first|exact rfl|exact el (by assumption)|exact el (by omega));(first|with_reducible assumption|conv=>lhs;whnf);exact rfl)
   | (apply mp;exact rfl;(first|with_reducible assumption|conv=>lhs;whnf);exact rfl;exact rfl;(focus ((repeat constructor);done));(first|exact rfl|exact el (by assumption)|exact el (by omega));(first|exact rfl|assumption);assumption)
   | (apply rS;exact rfl;exact rfl;exact x6;exact rfl)
   | (apply rT;exact rfl;exact rfl;exact x6;exact rfl)
   | (apply mR;exact rfl;exact rfl;exact rfl;exact x6;exact rfl)
   | (apply j_ (b:=true);exact rfl;(first|with_reducible assumption|conv=>lhs;whnf);exact rfl)
   | (apply j_ (b:=false);exact rfl;(first|with_reducible assumption|conv=>lhs;whnf);exact rfl)
   | (apply oU;exact rfl)
   | (apply ly;exact rfl;exact rfl)
   | (apply m6;exact rfl;exact rfl;(first|with_reducible rfl|decide);exact rfl)
   | (apply m7;exact rfl;exact rfl;decide;exact rfl)
   | (apply lx;exact rfl;exact rfl;exact rfl;(first|with_reducible rfl|decide);exact rfl)
   | (apply kG;exact rfl;exact rfl;exact rfl)
   | (apply mh;exact rfl;exact rfl;exact rfl)
   | (apply oP;exact rfl;exact rfl;exact rfl;exact rfl)
   | (apply mY;exact rfl;exact rfl;exact rfl;exact rfl)
   | (apply mZ;exact rfl;exact rfl;exact rfl;exact rfl)
   | (apply zp;exact rfl;exact rfl;decide;decide;(conv=>lhs;simp);exact x6;exact rfl)
   | (apply zr;exact rfl;exact rfl;decide;decide;(conv=>lhs;simp);exact rfl)
   | (apply yf;exact rfl;exact rfl;exact x6;exact rfl)
   | (apply rx;exact rfl;exact rfl)
   | (apply ry;exact rfl;exact rfl)
   | (apply rp;exact rfl;exact rfl)
   | (apply ro;(first|with_reducible assumption|conv=>lhs;whnf);exact rfl)
   | (apply mQ;(first|with_reducible assumption|conv=>lhs;whnf);exact rfl)
   | (apply gl;(first|with_reducible assumption|conv=>lhs;whnf);exact rfl;exact rfl)
   | (apply iN;(first|with_reducible assumption|conv=>lhs;whnf);exact rfl)
   | (apply lj;exact rfl;exact rfl;exact rfl)
   | (apply mn;exact rfl;exact rfl;(focus ((repeat constructor);done));(first|exact rfl|exact el (by assumption)|exact el (by omega));(first|with_reducible assumption|conv=>lhs;whnf);exact rfl)
   | (apply mi;exact rfl;exact rfl;exact rfl;exact rfl;omega;omega;exact rfl)
   | (apply lp;exact rfl;exact rfl;exact rfl;exact rfl;omega;omega;exact rfl))
  try refine gB (by conv=>lhs;whnf) ?_
  exact wM.out g):A:=h ⟨k⟩
theorem run (A:Prop) {B:Prop} (k:B) (h:wM B->A:=by
  intro g
  repeat(first
   | refine dk ?_
   | (refine oJ (qs:=qsT) mixed_ok (by kernel_rfl) ?_;(repeat(refine gB (by conv=>lhs;whnf) ?_;first
      | (apply kt)
      | (apply mT;exact rfl;exact rfl;(focus ((repeat constructor);done));(first|exact rfl|exact el (by assumption)|exact el (by omega));(first|with_reducible assumption|conv=>lhs;whnf);exact rfl)
      | (apply mp;exact rfl;(first|with_reducible assumption|conv=>lhs;whnf);exact rfl;exact rfl;(focus ((repeat constructor);done));(first|exact rfl|exact el (by assumption)|exact el (by omega));(first|exact rfl|assumption);assumption)
      | (apply rS;exact rfl;exact rfl;exact x6;exact rfl)
      | (apply rT;exact rfl;exact rfl;exact x6;exact rfl)
      | (apply mR;exact rfl;exact rfl;exact rfl;exact x6;exact rfl)
      | (apply j_ (b:=true);exact rfl;(first|with_reducible assumption|conv=>lhs;whnf);exact rfl)
      | (apply j_ (b:=false);exact rfl;(first|with_reducible assumption|conv=>lhs;whnf);exact rfl)
      | (apply oU;exact rfl)
      | (apply ly;exact rfl;exact rfl)
      | (apply m6;exact rfl;exact rfl;(first|with_reducible rfl|decide);exact rfl)
      | (apply m7;exact rfl;exact rfl;decide;exact rfl)
      | (apply lx;exact rfl;exact rfl;exact rfl;(first|with_reducible rfl|decide);exact rfl)
      | (apply kG;exact rfl;exact rfl;exact rfl)
      | (apply mh;exact rfl;exact rfl;exact rfl)
      | (apply oP;exact rfl;exact rfl;exact rfl;exact rfl)
      | (apply mY;exact rfl;exact rfl;exact rfl;exact rfl)
      | (apply mZ;exact rfl;exact rfl;exact rfl;exact rfl)
      | (apply zp;exact rfl;exact rfl;decide;decide;(conv=>lhs;simp);exact x6;exact rfl)
      | (apply zr;exact rfl;exact rfl;decide;decide;(conv=>lhs;simp);exact rfl)
      | (apply yf;exact rfl;exact rfl;exact x6;exact rfl)
      | (apply rx;exact rfl;exact rfl)
      | (apply ry;exact rfl;exact rfl)
      | (apply rp;exact rfl;exact rfl)
      | (apply ro;(first|with_reducible assumption|conv=>lhs;whnf);exact rfl)
      | (apply mQ;(first|with_reducible assumption|conv=>lhs;whnf);exact rfl)
      | (apply gl;(first|with_reducible assumption|conv=>lhs;whnf);exact rfl;exact rfl)
      | (apply iN;(first|with_reducible assumption|conv=>lhs;whnf);exact rfl)
      | (apply lj;exact rfl;exact rfl;exact rfl)
      | (apply mn;exact rfl;exact rfl;(focus ((repeat constructor);done));(first|exact rfl|exact el (by assumption)|exact el (by omega));(first|with_reducible assumption|conv=>lhs;whnf);exact rfl)
      | (apply mi;exact rfl;exact rfl;exact rfl;exact rfl;omega;omega;exact rfl)
      | (apply lp;exact rfl;exact rfl;exact rfl;exact rfl;omega;omega;exact rfl)));try refine gB (by conv=>lhs;whnf) ?_)
   | refine uM ?_
   | refine Cw ?_
   | refine fW ?_
   | refine uL ?_
   | refine rY rfl (by with_reducible rfl) ?_
   | refine oQ rfl (by with_reducible rfl) ?_)
  exact wM.out g):A:=h ⟨k⟩
theorem go {A B:Prop} (k:B) (h:wM B->A:=by
  intro g
  repeat((try refine gB (by conv=>lhs;whnf) ?_);first
   | (apply kt)
   | (apply r9;exact rfl;exact rfl;(focus ((repeat(with_reducible constructor));done));omega;exact rfl)
   | (apply qG;exact rfl;exact rfl;(with_reducible assumption);omega;exact rfl)
   | (apply wG;exact rfl;exact rfl;(with_reducible assumption);omega;exact rfl)
   | (apply mT;exact rfl;exact rfl;(focus ((repeat constructor);done));(first|exact rfl|exact el (by assumption)|exact el (by omega));(first|with_reducible assumption|(conv=>lhs;whnf;try dsimp only[RS.wRv,RS.wBuf,RS.wOff,RS.wRem,RS.wSaw,RS.wWin,RS.wRep,RS.wHuf,RS.wCb,RS.wLit,RS.wFs,RS.wScr,RS.wChk,RS.wSeq]));exact rfl)
   | (apply ke;exact rfl;exact rfl;(first|with_reducible rfl|exact aN _);exact rfl;(focus ((repeat(with_reducible constructor));done));omega;assumption)
   | (apply mp;exact rfl;(first|with_reducible assumption|conv=>lhs;whnf);exact rfl;(first|exact rfl|with_reducible assumption);(focus ((repeat constructor);done));(first|exact rfl|exact el (by assumption)|exact el (by omega));(first|exact rfl|assumption);assumption)
   | (apply zu;exact rfl;exact rfl;(first|with_reducible rfl|exact aN _);(first|with_reducible rfl|exact aN _);exact nE;exact rfl)
   | (apply zv;exact rfl;exact rfl;(first|with_reducible rfl|exact aN _);(first|with_reducible rfl|exact aN _);omega;exact nE;exact rfl)
   | (apply r7;exact rfl;(first|with_reducible rfl|exact aN _);exact rfl;exact rfl;exact nE;exact rfl)
   | (apply wF;exact rfl;(first|with_reducible rfl|exact aN _);exact rfl;exact rfl;exact rfl)
   | (apply r8;exact rfl;(first|with_reducible rfl|exact aN _);exact rfl;exact rfl;exact rfl;exact rfl)
   | (apply CM;exact rfl;exact rfl;(first|with_reducible rfl|exact aN _);exact rfl;exact rfl;omega;exact rfl)
   | (apply rA;exact rfl;exact rfl;(first|with_reducible rfl|exact aN _);exact rfl;exact rfl;omega;exact rfl)
   | (apply CL;exact rfl;exact rfl;(first|with_reducible rfl|exact aN _);exact rfl;exact rfl;omega;exact rfl)
   | (apply zG;exact rfl;exact rfl;(first|with_reducible rfl|exact aN _);exact rfl;exact rfl;omega;exact rfl)
   | (apply CN;exact rfl;exact rfl;exact rfl;exact rfl;(first|with_reducible rfl|exact aN _);omega;exact rfl)
   | (apply CO;exact rfl;exact rfl;exact rfl;exact rfl;exact rfl;(first|with_reducible rfl|exact aN _);(first|with_reducible rfl|exact aN _);omega;omega;omega;exact rfl)
   | (apply zH;exact rfl;exact rfl;exact rfl;exact rfl;(first|with_reducible rfl|exact aN _);omega;exact rfl)
   | (apply zI;exact rfl;exact rfl;exact rfl;exact rfl;exact rfl;(first|with_reducible rfl|exact aN _);(first|with_reducible rfl|exact aN _);omega;omega;omega;exact rfl)
   | (apply j_ (b:=true);exact rfl;(first|with_reducible assumption|conv=>lhs;whnf);exact rfl)
   | (apply j_ (b:=false);exact rfl;(first|with_reducible assumption|conv=>lhs;whnf);exact rfl)
   | (apply oU;exact rfl)
   | (apply ly;exact rfl;exact rfl)
   | (apply m6;exact rfl;exact rfl;(first|with_reducible rfl|decide);exact rfl)
   | (apply m7;exact rfl;exact rfl;decide;exact rfl)
   | (apply lx;exact rfl;exact rfl;exact rfl;(first|with_reducible rfl|decide);exact rfl)
   | (apply kG;exact rfl;exact rfl;exact rfl)
   | (apply mh;exact rfl;exact rfl;exact rfl)
   | (apply oP;exact rfl;exact rfl;exact rfl;exact rfl)
   | (apply mY;exact rfl;exact rfl;exact rfl;exact rfl)
   | (apply mZ;exact rfl;exact rfl;exact rfl;exact rfl)
   | (apply zF;exact rfl;exact rfl;(first|with_reducible rfl|exact aN _);(first|with_reducible rfl|exact aN _);exact nE;exact nE;(first|exact GU _|exact GV _|exact GW _|exact CH _|exact CI _|exact CJ _|exact zt _|exact wE _|exact CK _|exact rfl);exact rfl)
   | (apply zE;exact rfl;exact rfl;(first|with_reducible rfl|exact aN _);(first|with_reducible rfl|exact aN _);(first|decide|(simp only[IntKind.bits];omega));exact rfl)
   | (apply uU;exact rfl;exact rfl;(first|with_reducible rfl|exact aN _);(first|with_reducible rfl|exact aN _);(first|decide|(simp only[IntKind.bits];omega));exact nE;exact rfl)
   | (apply zw;exact rfl;exact rfl;(first|with_reducible rfl|exact aN _);(first|with_reducible rfl|exact aN _);exact nE;exact rfl)
   | (apply zx;exact rfl;exact rfl;(first|with_reducible rfl|exact aN _);(first|with_reducible rfl|exact aN _);omega;exact nE;exact rfl)
   | (apply zC;exact rfl;exact rfl;(first|with_reducible rfl|exact aN _);(first|with_reducible rfl|exact aN _);omega;exact rfl)
   | (apply rS;exact rfl;exact rfl;exact x6;exact rfl)
   | (apply rT;exact rfl;exact rfl;exact x6;exact rfl)
   | (apply mR;exact rfl;exact rfl;exact rfl;exact x6;exact rfl)
   | (apply rx;exact rfl;exact rfl)
   | (apply ry;exact rfl;exact rfl)
   | (apply rp;exact rfl;exact rfl)
   | (apply lk;exact rfl;exact rfl)
   | (apply ro;(first|with_reducible assumption|conv=>lhs;whnf);exact rfl)
   | (apply mQ;(first|with_reducible assumption|conv=>lhs;whnf);exact rfl)
   | (apply gl;(first|with_reducible assumption|conv=>lhs;whnf);exact rfl;exact rfl)
   | (apply iN;(first|with_reducible assumption|conv=>lhs;whnf);exact rfl)
   | (apply lj;exact rfl;exact rfl;exact rfl)
   | (apply mn;exact rfl;exact rfl;(focus ((repeat constructor);done));(first|exact rfl|exact el (by assumption)|exact el (by omega));(first|with_reducible assumption|conv=>lhs;whnf);exact rfl)
   | refine dk ?_
   | refine oJ (qs:=qsT) mixed_ok (by kernel_rfl) ?_
   | refine uM ?_
   | refine Cw ?_
   | refine fW ?_
   | refine uL ?_
   | refine rY rfl (by with_reducible rfl) ?_
   | refine oQ rfl (by with_reducible rfl) ?_)
  try refine gB (by conv=>lhs;whnf) ?_
  exact wM.out g):A:=h ⟨k⟩
end Go.Eng
namespace Go.Proofs.YtogmacnlpclgkaaGreatDoor
open Go Go.Eng
attribute [local irreducible] RO J av aO
structure bN (G:ao) where
 eb:Nat
 eo:Nat
 ub:Nat
 uo:Nat
 E0:bk
 E1:bk
 U0:bk
 U1:bk
 e0:(0,E0)∈G
 e0n:0<E0.n
 e0g:E0.g 0 = .iface 183 (.pointer (some ⟨eb,eo,none⟩))
 e1:(eb,E1)∈G
 e1f:E1.fr=(0,0)
 u0:(1,U0)∈G
 u0n:0<U0.n
 u0g:U0.g 0 = .iface 183 (.pointer (some ⟨ub,uo,none⟩))
 u1:(ub,U1)∈G
 u1f:U1.fr=(0,0)
 ne:ub≠eb\/uo≠eo
theorem jE (p:Nat×bk) (m:ao):aR (p::m) (m++[p]):=.of_perm (by simpa using(List.perm_append_comm (l₁:=[p]) (l₂:=m)))
inductive EV
 | nil|eof|ueof|z
def bN.eofV {G:ao} (S:bN G):Value:=.iface 183 (.pointer (some ⟨S.eb,S.eo,none⟩))
def bN.ueofV {G:ao} (S:bN G):Value:=.iface 183 (.pointer (some ⟨S.ub,S.uo,none⟩))
def dM {G:ao} (S:bN G):EV->Value->Prop
 | .nil,v=>v = .nilIface
 | .eof,v=>v=S.eofV
 | .ueof,v=>v=S.ueofV
 | .z,v=>∃b,v = .iface 166 (bf b)
theorem CQ:(Tryz.prog.info? 183).map (·.comparable)=some true:=by kernel_rfl
theorem lz:∃i,Tryz.prog.info? 183=some i/\i.comparable=true:=by
 have:=CQ
 simpa[Option.map_eq_some_iff] using this
theorem GX (G:ao) (s:ByteArray):av Tryz.prog G 90 #[.string s] [] (fun v m =>
  ∃b,v = .iface 183 (bf b)/\m=[(b,aj [.string s] 185)]):=by
 refine bE Tryz.func90 fun c h0 hex=>?_
 refine run _ ?_
 refine bU (vs:=[.string s]) rfl rfl z185 rfl rfl rfl rfl ?_
 refine aS _ ?_
 refine kw (by conv=>lhs;whnf) rfl rfl hex fun b hb=>?_
 refine aS _ ?_
 refine run _ ?_
 refine af ?_
 exact cL [2] rfl (post:=[(b,aj [.string s] 185)]) (junk:=[]) (.refl _) ⟨b,rfl,rfl⟩
theorem gM (G:ao) (S:bN G) (l:Nat) (k:bk) (x off:Int) (C:6<k.n) (hx:k.g 6 = .int .i64 x) (b o:Nat) (p:ao) (B:bk) (hB:(b,B)∈p++G) (hf:B.fr=(0,0)) (j:(((l,k)::p++G).map (·.1)).Nodup->b≠S.eb\/o≠S.eo) :
  av Tryz.prog G 76 #[bf l,.int .i64 off,.iface 183 (.pointer (some ⟨b,o,none⟩))] ((l,k)::p) (fun v m =>
   dM S .z v/\m=(l,k)::p):=by
 refine bE Tryz.func76 fun c h0 hex=>?_
 refine E2 fun q=>?_
 have j:=j q
 obtain⟨i,hi,y⟩:=lz
 refine run _ ?_
 refine aK rfl rfl (by simp[S.e0]) S.e0n S.e0g rfl ?_
 refine aS _ ?_
 refine gn (r:=false) (B:=B) (B':=S.E1) rfl rfl rfl rfl hi y rfl ?_ rfl ?_
 ·by_cases hb:b=S.eb
  ·exact .inl ⟨hb,by have:=j.resolve_left (fun h=>h hb);simp[this]⟩
  ·exact .inr ⟨hb,rfl,by rcases List.mem_append.1 hB with h|h<;>simp[h],by simp[S.e1],hf,S.e1f⟩
 refine aS _ ?_
 refine run _ ?_
 refine dq (op:=.add) rfl rfl rfl rfl ?_
 refine aS _ ?_
 refine bU (vs:=[.int .i64 (IntKind.i64.wrap (x+off)),.iface 183 (.pointer (some ⟨b,o,none⟩))]) rfl rfl z168 rfl rfl rfl rfl ?_
 refine aS _ ?_
 refine kw (by conv=>lhs;whnf) rfl rfl hex fun b' u=>?_
 refine aS _ ?_
 refine run _ ?_
 refine af ?_
 exact ag [6] ⟨⟨b',rfl⟩,rfl⟩ rfl (jE _ _)
theorem tA (G:ao) (S:bN G) (g:Nat) (off:Int) :
  av Tryz.prog G 76 #[bf g,.int .i64 off,S.eofV] [] (fun v m=>v=S.eofV/\m=[]):=by
 refine bE Tryz.func76 fun c h0 hex=>?_
 obtain⟨i,hi,h⟩:=lz
 refine run _ ?_
 refine aK rfl rfl (by simp[S.e0]) S.e0n S.e0g rfl ?_
 refine aS _ ?_
 refine gn (r:=true) (B:=S.E1) (B':=S.E1) rfl rfl rfl rfl hi h rfl (.inl ⟨rfl,by simp⟩) rfl ?_
 refine aS _ ?_
 refine run _ ?_
 refine af ?_
 exact cL [6] rfl (post:=[]) (junk:=[]) (.refl _) ⟨rfl,rfl⟩
theorem wN (G:ao) (S:bN G) (j:Nat) (i:bk) (x off:Int) (s:ByteArray) (k:6<i.n) (hx:i.g 6 = .int .i64 x) :
  av Tryz.prog G 79 #[bf j,.int .i64 off,.string s] [(j,i)] (fun v m=>dM S .z v/\m=[(j,i)]):=by
 refine bE Tryz.func79 fun c h0 hex=>?_
 refine run _ ?_
 refine ae (GX G s) ?_
 rintro v m ⟨b,rfl,rfl⟩
 refine aS _ ?_
 refine ae (gM G S j i x off k hx b 0 [(b,aj [.string s] 185)] _ (by simp;exact .inl rfl) rfl ?_) ?_
 ·intro h
  left
  intro l;simp only[List.cons_append,List.nil_append,List.map_cons,List.nodup_cons,List.mem_cons,List.mem_map] at h
  exact h.2.1 ⟨_,S.e1,l.symm⟩
 rintro v m ⟨p,rfl⟩
 obtain⟨b',rfl⟩:=p
 refine aS _ ?_
 refine run _ ?_
 exact af (ag [6] ⟨⟨b',rfl⟩,rfl⟩)
theorem se (G:ao) (S:bN G) (i:Nat) (h:bk) (x off:Int) (k:6<h.n) (hx:h.g 6 = .int .i64 x) :
  av Tryz.prog G 92 #[bf i,.int .i64 off] [(i,h)] (fun v m=>dM S .z v/\m=[(i,h)]):=by
 refine bE Tryz.func92 fun c h0 hex=>?_
 refine run _ ?_
 refine aK rfl rfl (by simp[S.u0]) S.u0n S.u0g rfl ?_
 refine aS _ ?_
 refine ae (gM G S i h x off k hx S.ub S.uo [] S.U1 (by simp[S.u1]) S.u1f (fun _=>S.ne)) ?_
 rintro v m ⟨j,rfl⟩
 obtain⟨b',rfl⟩:=j
 refine aS _ ?_
 refine run _ ?_
 refine af ?_
 exact cL [4] rfl (post:=[(i,h)]) (junk:=[]) (.refl _) ⟨⟨b',rfl⟩,rfl⟩
theorem oW (G:ao) (S:bN G) (k:Nat) (j:bk) (x off:Int) (e:EV) (v:Value) (t:e = .eof\/e = .ueof) (l:dM S e v) (p:6<j.n) (hx:j.g 6 = .int .i64 x) :
  av Tryz.prog G 80 #[bf k,.int .i64 off,v] [(k,j)] (fun v m=>dM S .z v/\m=[(k,j)]):=by
 refine bE Tryz.func80 fun c h0 hex=>?_
 obtain⟨i,hi,q⟩:=lz
 rcases t with rfl|rfl<;>cases l
 ·refine run _ ?_
  refine aK rfl rfl (by simp[S.e0]) S.e0n S.e0g rfl ?_
  refine aS _ ?_
  refine gn (r:=true) (B:=S.E1) (B':=S.E1) rfl rfl rfl rfl hi q rfl (.inl ⟨rfl,by simp⟩) rfl ?_
  refine aS _ ?_
  refine run _ ?_
  refine aK rfl rfl (by simp[S.u0]) S.u0n S.u0g rfl ?_
  refine aS _ ?_
  refine run _ ?_
  refine ae (gM G S k j x off p hx S.ub S.uo [] S.U1 (by simp[S.u1]) S.u1f (fun _=>S.ne)) ?_
  rintro v m ⟨l,rfl⟩;obtain⟨b',rfl⟩:=l;refine aS _ ?_
  refine run _ ?_
  refine af ?_;exact cL [6] rfl (post:=[(k,j)]) (junk:=[]) (.refl _) ⟨⟨b',rfl⟩,rfl⟩
 ·refine run _ ?_
  refine aK rfl rfl (by simp[S.e0]) S.e0n S.e0g rfl ?_
  refine aS _ ?_
  refine gn (r:=false) (B:=S.U1) (B':=S.E1) rfl rfl rfl rfl hi q rfl ?_ rfl ?_
  ·by_cases hb:S.ub=S.eb
   ·exact .inl ⟨hb,by have:=S.ne.resolve_left (fun h=>h hb);simp[this]⟩
   ·exact .inr ⟨hb,rfl,by simp[S.u1],by simp[S.e1],S.u1f,S.e1f⟩
  refine aS _ ?_
  refine run _ ?_
  refine ae (gM G S k j x off p hx S.ub S.uo [] S.U1 (by simp[S.u1]) S.u1f (fun _=>S.ne)) ?_
  rintro v m ⟨l,rfl⟩;obtain⟨b',rfl⟩:=l;refine aS _ ?_
  refine run _ ?_
  refine af ?_;exact cL [6] rfl (post:=[(k,j)]) (junk:=[]) (.refl _) ⟨⟨b',rfl⟩,rfl⟩
end Go.Proofs.YtogmacnlpclgkaaGreatDoor
namespace Go.Proofs.YtogmacnlpclgkaaGreatDoor
open Go Go.Eng Go.ChangeShapes Go.WideShapes Go.RowKit
def pP:Obj->Option bk
 | .cells cs T fr=>some ⟨cs.size,fun i=>cs.getD i undef,T,fr⟩
 | _=>none
theorem yp {o:Obj} {B:bk} (h:pP o=some B):B.obj=o:=by
 unfold pP at h
 split at h
 ·rename_i cs T fr
  cases h;unfold bk.obj bk.cells
  congr 1
  apply Array.ext
  ·simp
  ·intro i g j;simp
 ·cases h
def iv (h:bJ):ao:=(List.range h.size).filterMap fun i=>((h[i]?).bind pP).map fun B=>(i,B)
theorem A9 {h:bJ}:∀p∈iv h,h[p.1]? = some p.2.obj:=by
 intro p g
 unfold iv at g
 simp only[List.mem_filterMap,Option.map_eq_some_iff,Option.bind_eq_some_iff] at g
 obtain⟨i,_,B,⟨o,j,hB⟩,rfl⟩:=g
 rw[yp hB];exact j
theorem kH {h:bJ} {b:Nat} {cs:Array Value} {T:TypeId} {fr:Nat×Nat} (hb:h[b]? = some (.cells cs T fr)):(b,(⟨cs.size,fun i=>cs.getD i undef,T,fr⟩:bk))∈iv h:=by
 unfold iv
 simp only[List.mem_filterMap,Option.map_eq_some_iff,Option.bind_eq_some_iff,List.mem_range]
 exact⟨b,(Array.getElem?_eq_some_iff.1 hb).1,_,⟨_,hb,rfl⟩,rfl⟩
theorem wO (h:bJ):((iv h).map (·.1)).Nodup:=by
 unfold iv
 have key:∀l:List Nat,l.Nodup->((l.filterMap fun i=>((h[i]?).bind pP).map fun B=>(i,B)).map (·.1)).Nodup/\∀x∈(l.filterMap fun i=>((h[i]?).bind pP).map fun B=>(i,B)).map (·.1),x∈l:=by
  intro l
  induction l with
  | nil=>intro _;simp
  | cons i l r =>
   intro q;obtain⟨t,k⟩:=List.nodup_cons.1 q;obtain⟨j,i2⟩:=r k;rw[List.filterMap_cons]
   cases hq:((h[i]?).bind pP).map fun B=>(i,B) with
   | none=>exact⟨j,fun x hx=>List.mem_cons_of_mem _ (i2 x hx)⟩
   | some p =>
    have g:p.1=i:=by
     simp only[Option.map_eq_some_iff] at hq
     obtain⟨B,_,rfl⟩:=hq
     rfl
    refine⟨?_,fun x hx=>?_⟩
    ·simp only[List.map_cons,List.nodup_cons]
     rw[g];exact⟨fun u=>t (i2 i u),j⟩
    ·rw[List.map_cons,List.mem_cons] at hx;rcases hx with rfl|hx
     ·rw[g];exact List.mem_cons_self
     ·exact List.mem_cons_of_mem _ (i2 x hx)
 exact(key _ List.nodup_range).1
theorem A_ (h:bJ):ed ⟨h,[],false⟩ (iv h) [] h where
 size:=aZ _
 has:=by simpa using A9
 nodup:=by simpa using wO h
 known:=by simp
 old:=fun _ _ _=>rfl
 ex:=fun h=>by cases h
theorem tB {P:Program} {fn:FuncId} {args:Array Value} {R:Value->ao->Prop} {W:World} (t:av P (iv W.heap) fn args [] R) :
  Calls P fn args W (fun e h=>∃v m,e = .returned v/\Below W.heap.size W h/\R v m) :=
 (t W W.heap W (At.self W) (A_ _)).mono fun _ _ ⟨v,m,h',he,hc,ho,hR⟩ =>
  ⟨v,m,he,⟨hc.2.2.1,hc.2.1,hc.2.2.2,by rw[hc.1];exact ho.size,fun k g=>by rw[hc.1];exact ho.old k g (by simp[ao.keys])⟩,hR⟩
theorem gN {W:World} {b o:Nat} {v:Value} (h:W.cell? ⟨b,o,none⟩=some v):∃cs T fr,W.heap[b]? = some (.cells cs T fr)/\o<cs.size/\cs.getD o undef=v:=by
 unfold World.cell? at h
 split at h
 ·rename_i c T fr hb
  simp only[Option.isSome_none,Bool.false_eq_true,if_false] at h
  have g:=(Array.getElem?_eq_some_iff.1 h).1
  exact⟨c,T,fr,hb,g,by rw[Array.getD_eq_getD_getElem?,h];rfl⟩
 ·cases h
theorem qL {P:Program} {w:World} {base:Nat} {t e:TypeId} {v:Value} (ht:P.underlying t=some (.slice e)) (g:Value.okWide P w .any base t v) :
  v = .slice none 0 0\/∃b o len cap row c,v = .slice (some ⟨b,o,none⟩) len cap/\w.shape? b=some (row,c):=by
 unfold Value.okWide at g
 simp only[ht] at g
 unfold Cell.okWide at g
 cases v with
 | slice i len cap =>
  simp only[ht] at g
  unfold Cell.ok at g
  simp only[ht] at g
  cases i with
  | none =>
   cases len with
   | zero=>cases cap with
    | zero=>exact .inl rfl
    | succ c=>exact g.elim
   | succ l=>exact g.elim
  | some a =>
   obtain⟨_,_,_,hs,row,c,h,_⟩:=g;obtain⟨b,o,s⟩:=a;simp only at hs
   subst hs;exact .inr ⟨b,o,len,cap,row,c,rfl,h⟩
 | _ =>
  simp only[ht] at g
  unfold Cell.ok at g
  simp only[ht] at g
theorem cv {H:Type} {enc:TypeId×Value->H} {P:Program} {w:World} {base:Nat} {t e:TypeId} {v:Value} {d:DataW H} {K:List MemPlace} (ht:P.underlying t=some (.slice e)) (A:P.underlying e=some (.int .u8)) (hc:P.cellsOf e=1)
  (k:Value.okWide P w .any base t v) (h:DataW.Trod enc P w 0 (fun _=>true) true t v d K):∃I n B x,v = .slice I n B/\(∀i,x i<256)/\aU (iv w.heap) I n B x/\B<=maxLen:=by
 obtain⟨fuel,h⟩:=h
 rcases qL ht k with rfl|⟨b,o,len,cap,row,c,rfl,r⟩
 ·exact⟨none,0,0,fun _=>0,rfl,fun _=>by show 0<256;omega,⟨aZ _,.inl ⟨rfl,rfl,rfl⟩⟩,Nat.zero_le _⟩
 ·rcases open_ints ht A hc h with⟨l,_⟩|⟨a,F,C,zs,l,_,J,W,M,_,O,h6⟩
  ·simp[Value.cells] at l
  ·simp only[Value.cells,List.cons.injEq,Value.slice.injEq,Option.some.injEq,and_true] at l
   obtain⟨rfl,rfl,rfl⟩:=l;simp only[if_true] at M
   have U:∀i,i<cap->∃y:Nat,y<256/\zs.getD i 0=y:=fun i hi=>by
    have Y:zs.getD i 0∈zs:=by
     rw[List.getD_eq_getElem?_getD,List.getElem?_eq_getElem aa];exact List.getElem_mem _
    have:=h6 _ Y
    generalize zs.getD i 0=z at *;simp[Lit.wf,IntKind.min,IntKind.max,IntKind.signed,IntKind.bits] at this
    exact⟨z.toNat,aa,aa⟩
   have j:∀i,i<cap->w.cell? ⟨b,o+i,none⟩=some (.int .u8 (zs.getD i 0)):=fun i hi=>by
    have:=O i aa
    rwa[eU] at this
   obtain⟨cs,T,fr,hb⟩:∃cs T fr,w.heap[b]? = some (.cells cs T fr):=by
    unfold World.shape? at r
    split at r
    ·rename_i cs T fr hb;exact⟨cs,T,fr,hb⟩
    ·cases r
   refine⟨_,len,cap,fun i=>(zs.getD i 0).toNat%256,rfl,fun i=>Nat.mod_lt _ aa,⟨J,.inr ⟨b,o,_,rfl,kH hb,fun h0=>?_,fun i hi=>?_⟩⟩,W⟩
   ·obtain⟨q,T',u,g,p,_⟩:=gN (j (len-1) aa)
    rw[hb] at g;cases g;show o+len<=cs.size
    omega
   ·obtain⟨q,T',u,g,p,hv⟩:=gN (j i aa)
    rw[hb] at g;cases g;obtain⟨y,V,A⟩:=U i aa;show cs.getD (o+i) undef=_
    rw[hv,A];simp only[Int.toNat_natCast]
    rw[Nat.mod_eq_of_lt V]
end Go.Proofs.YtogmacnlpclgkaaGreatDoor
namespace Go.Proofs.YtogmacnlpclgkaaGreatDoor
open Go Go.Eng Go.ChangeShapes Go.WideShapes Go.RowKit
set_option maxRecDepth 100000
def CR:List (String×DataW Unit):=[("io.ErrShortBuffer",Rows.laid_io_ErrShortBuffer),("io.EOF",Rows.laid_io_EOF),("io.ErrUnexpectedEOF",Rows.laid_io_ErrUnexpectedEOF),("framesunpacked/pub/zstd.fuzzing",Rows.laid_framesunpacked_pub_zstd_fuzzing)]
theorem CS:ownKnob Tryz.prog.godebug=none:=by kernel_rfl
theorem Fa:laidOutB Tryz.prog=true:=by kernel_rfl
theorem CT:Tryz.prog.globalNamed "io.ErrShortBuffer" = some 3:=by kernel_rfl
theorem Hp:Tryz.prog.globalNamed "io.EOF" = some 0:=by kernel_rfl
theorem Fb:Tryz.prog.globalNamed "io.ErrUnexpectedEOF" = some 1:=by kernel_rfl
theorem Fc:Tryz.prog.globalNamed "framesunpacked/pub/zstd.fuzzing" = some 2:=by kernel_rfl
theorem CU:(Tryz.prog.globals[3]?).map (·.type)=some 93:=by kernel_rfl
theorem Hq:(Tryz.prog.globals[0]?).map (·.type)=some 93:=by kernel_rfl
theorem Fd:(Tryz.prog.globals[1]?).map (·.type)=some 93:=by kernel_rfl
theorem Fe:(Tryz.prog.globals[2]?).map (·.type)=some 4:=by kernel_rfl
theorem I8 : "*" ++ "errors.errorString" = "*errors.errorString" := by decide
theorem I9 (u:TypeId) (h:Tryz.prog.typeName? 3 u=some "*errors.errorString"):u=183 :=
 typeName_ptr_named (nm := "errors.errorString") (by rw[I8];kernel_rfl) (by kernel_rfl) (by decide) u (by rw[I8];exact h)
theorem Ku:Tryz.prog.cellsOf 185=1:=by kernel_rfl
theorem cS:Tryz.prog.cellsOf 9=1:=by kernel_rfl
theorem wP {W:World} {fuel:Nat} {cs:List Value} {text:List UInt8} {p:List MemPlace}
  (h:DataW.trod (fun _=>()) Tryz.prog W 0 (fun _=>true) false fuel 93 cs=some (.iface "*errors.errorString" (.ptr (.agg [.lit (.string text)])),p))
  (dE:∀u v,cs=[.iface u v]->Value.okWide Tryz.prog W .any 0 u v) :
  ∃a s,cs=[.iface 183 (.pointer (some a))]/\W.cell? a=some (.string s)/\s.data.toList=text/\s.size<=maxLen/\p=MemPlace.row a 1:=by
 obtain⟨ms,hi⟩:=v_ (P:=Tryz.prog) (T:=93) rfl
 have i:=qB (P:=Tryz.prog) (T:=183) (e:=185) rfl
 obtain⟨g,hf,hl⟩:=v9 (P:=Tryz.prog) (T:=185) (fs:=[(0,9)]) rfl
 have hs:=kF (P:=Tryz.prog) (T:=9) rfl
 obtain⟨f,rfl⟩:∃f,g=#[f]:=by
  obtain⟨l⟩:=g
  match l,hl with
  | [f],_=>exact⟨f,rfl⟩
 simp only[List.map_cons,List.map_nil,List.cons.injEq,Prod.mk.injEq,and_true] at hl
 exact errorString_of_trod hi I9 i hf hl.2 hl.1 hs Ku cS h dE
theorem CV {W:World} {b o:Nat} {s:ByteArray} (h:W.cell? ⟨b,o,none⟩=some (.string s)) (l:∃c t,W.heap[b]? = some (.cells c t (0,0))) :
  ∃B:bk,(b,B)∈iv W.heap/\B.fr=(0,0)/\B.g o = .string s:=by
 obtain⟨c,t,hb⟩:=l
 obtain⟨cs,T,fr,i,j,k⟩:=gN h
 rw[hb] at i
 cases i
 exact⟨_,kH hb,rfl,k⟩
theorem uY {W:World} {n:String} {g:Nat} {x:Value} (hg:Tryz.prog.globalNamed n=some g) (i:W.var? Tryz.prog n=some #[x]):∃B:bk,(g,B)∈iv W.heap/\0<B.n/\B.g 0=x:=by
 have h0:W.cell? ⟨g,0,none⟩=some x:=by simpa using World.var?_cell hg i 0
 obtain⟨cs,T,fr,hb,h,hx⟩:=gN h0
 exact⟨_,kH hb,h,hx⟩
set_option maxHeartbeats 1000000 in
theorem eA {W:World} (h:laidMet Tryz.prog CR W):∃(_:bN (iv W.heap)) (K:bk),(2,K)∈iv W.heap/\0<K.n/\K.g 0 = .bool false:=by
 obtain⟨ps,⟨g0,t0,b5,f0,p0,q0,a6,ba,b7,bb,⟨g1,t1,br,f1,p1,q1,r,a3,V,F,⟨g2,t2,bd,f2,p2,q2,y,a4,C,z,⟨g3,t3,bu,f3,p3,q3,ad,a8,a0,j,a9,e3⟩,e2⟩,e1⟩,e0⟩,bq,i⟩:=h
 obtain rfl:=Option.some.inj (CT.symm.trans a6)
 obtain rfl:=Option.some.inj (Hp.symm.trans r)
 obtain rfl:=Option.some.inj (Fb.symm.trans y)
 obtain rfl:=Option.some.inj (Fc.symm.trans ad)
 obtain rfl:=Option.some.inj (CU.symm.trans ba)
 obtain rfl:=Option.some.inj (Hq.symm.trans a3)
 obtain rfl:=Option.some.inj (Fd.symm.trans a4)
 obtain rfl:=Option.some.inj (Fe.symm.trans a8)
 have am:q3=[]:=a9
 subst am e3 e2 e1 e0
 obtain⟨l1⟩:=br
 obtain⟨l2⟩:=bd
 obtain⟨l3⟩:=bu
 have ok1:∀u v,l1=[.iface u v]->Value.okWide Tryz.prog W .any 0 u v:=fun u v e=>by
  subst e;exact(i 0 0 (by simp[MemPlace.row])).2 u v (by simpa using World.var?_cell r V 0)
 have ok2:∀u v,l2=[.iface u v]->Value.okWide Tryz.prog W .any 0 u v:=fun u v e=>by
  subst e;exact(i 1 0 (by simp[MemPlace.row])).2 u v (by simpa using World.var?_cell y C 0)
 obtain⟨a1,s1,rfl,p,q,b6,rfl⟩:=wP F ok1
 obtain⟨a2,s2,rfl,l,J,b4,rfl⟩:=wP z ok2
 have M:a1.spot=none:=by
  unfold World.cell? at p
  split at p
  ·cases hsp:a1.spot with
   | none=>rfl
   | some k=>rw[hsp] at p;simp at p
  ·cases p
 have U:a2.spot=none:=by
  unfold World.cell? at l
  split at l
  ·cases hsp:a2.spot with
   | none=>rfl
   | some k=>rw[hsp] at l;simp at l
  ·cases l
 obtain⟨b1,o1,_⟩:=a1
 obtain⟨b2,o2,_⟩:=a2
 simp only at M U
 subst M U
 obtain⟨E1,a5,Y,bv⟩:=CV p (i b1 o1 (by simp[MemPlace.row])).1
 obtain⟨U1,bm,al,b3⟩:=CV l (i b2 o2 (by simp[MemPlace.row])).1
 obtain⟨E0,ax,ab,O⟩:=uY r V
 obtain⟨U0,bt,I,B⟩:=uY y C
 have bs:l3=[.bool false]:=by
  have hb:=pK (P:=Tryz.prog) (T:=4) rfl
  cases f3 with
  | zero=>simp[DataW.trod] at j
  | succ k =>
   match l3,j with
   | [],j=>simp[DataW.trod,hb] at j
   | _::_::_,j=>simp[DataW.trod,hb] at j
   | [v],j =>
    cases v<;>simp[DataW.trod,hb,Rows.laid_framesunpacked_pub_zstd_fuzzing] at j
    rw[j.1]
 subst bs
 obtain⟨K,be,a7,bo⟩:=uY ad a0
 have aw:b2≠b1\/o2≠o1:=by
  by_cases H:b2=b1
  ·right
   intro bc;subst H bc
   rw[p] at l;have hs:s1=s2:=Value.string.inj (Option.some.inj l)
   rw[hs] at q;exact absurd (q.symm.trans J) (by decide)
  ·exact .inl H
 clear bb F z j i bq p l q J
 have S:bN (iv W.heap):={ eb:=b1,eo:=o1,ub:=b2,uo:=o2,E0:=E0,E1:=E1,U0:=U0,U1:=U1,e0:=ax,e0n:=ab,e0g:=O,e1:=a5,e1f:=Y,u0:=bt,u0n:=I,u0g:=B,u1:=bm,u1f:=al,ne:=aw }
 exact⟨S,K,be,a7,bo⟩
theorem tC {P:Program} (l:laidOutB P=true) {H:Type} {enc:TypeId×Value->H} {W r:World} (hb:Below W.heap.size W r) (i:List TypeId):∀{vs:List Value} {j:List (DataW H)} {ps:List MemPlace},
  (∀t∈i,P.readableRec t=true/\t<P.types.size)->DataW.TrodAll enc P W 0 (fun _=>true) true i vs j ps->(∀x∈ps,x.block<W.heap.size) ->
  DataW.TrodAll enc P r 0 (fun b=>decide (b<W.heap.size)) true i vs j ps:=by
 induction i with
 | nil =>
  intro vs j ps _ h _;obtain⟨rfl,rfl,rfl⟩:=trodAll_nil h;exact trodAll_mk0
 | cons t i A =>
  intro vs j ps ht h g;obtain⟨v,y,d,C,p,q,rfl,rfl,rfl,B,u⟩:=trodAll_cons h;obtain⟨a1,z⟩:=ht t List.mem_cons_self
  exact trodAll_cons_mk (Below.trod l a1 z B hb fun x hx=>g x (List.mem_append.2 (.inl hx))) (A (fun t k=>ht t (List.mem_cons_of_mem _ k)) u fun x hx=>g x (List.mem_append.2 (.inr hx)))
def ew:List (String×DataW Unit):=[("io.ErrShortBuffer",Rows.laid_io_ErrShortBuffer),("io.EOF",Rows.laid_io_EOF),("io.ErrUnexpectedEOF",Rows.laid_io_ErrUnexpectedEOF),("framesunpacked/pub/zstd.literalLengthBase",Rows.laid_framesunpacked_pub_zstd_literalLengthBase),("framesunpacked/pub/zstd.matchLengthBase",Rows.laid_framesunpacked_pub_zstd_matchLengthBase),("framesunpacked/pub/zstd.fuzzing",Rows.laid_framesunpacked_pub_zstd_fuzzing)]
def GY (x:String×DataW Unit):Bool:=!(x.1 == "framesunpacked/pub/zstd.literalLengthBase") && !(x.1 == "framesunpacked/pub/zstd.matchLengthBase")
theorem Ff:ew.filter GY=CR:=by kernel_rfl
theorem eC {W:World} (h:laidMet Tryz.prog ew W):laidMet Tryz.prog CR W:=by
 have:=laidMet.filter GY h
 rwa[Ff] at this
abbrev Fg:ByteArray:={ data:=#[115,104,111,114,116,32,98,117,102,102,101,114] }
abbrev I_:ByteArray:={ data:=#[69,79,70] }
abbrev Hr:ByteArray:={ data:=#[117,110,101,120,112,101,99,116,101,100,32,69,79,70] }
noncomputable def CW:Nat:=(World.holding Tryz.prog default ⟨#[],#[],[]⟩).heap.size
noncomputable def dN (os:Os):World :=
 let w0:=World.holding Tryz.prog os ⟨#[.cells #[.string Fg] 185,.cells #[.string I_] 185,.cells #[.string Hr] 185,
  .cells #[.int .u32 16777232,.int .u32 16777234,.int .u32 16777236,.int .u32 16777238,.int .u32 33554456,.int .u32 33554460,.int .u32 50331680,.int .u32 50331688,.int .u32 67108912,.int .u32 100663360,.int .u32 117440640,.int .u32 134217984,.int .u32 150995456,.int .u32 167773184,.int .u32 184551424,.int .u32 201330688,.int .u32 218112000,.int .u32 234897408,.int .u32 251691008,.int .u32 268500992] 64,.cells #[.int .u32 16777251,.int .u32 16777253,.int .u32 16777255,.int .u32 16777257,.int .u32 33554475,.int .u32 33554479,.int .u32 50331699,.int .u32 50331707,.int .u32 67108931,.int .u32 67108947,.int .u32 83886179,.int .u32 117440643,.int .u32 134217987,.int .u32 150995459,.int .u32 167773187,.int .u32 184551427,.int .u32 201330691,.int .u32 218112003,.int .u32 234897411,.int .u32 251691011,.int .u32 268500995] 64],#[],[]⟩
 {w0 with heap:=((((w0.heap.modify 3 fun
   | .cells _ t frozen=>.cells #[.iface 183 (bf CW)] t frozen
   | o=>o).modify 0 fun
   | .cells _ t frozen=>.cells #[.iface 183 (.pointer (some ⟨CW+1,0,none⟩))] t frozen
   | o=>o).modify 1 fun
   | .cells _ t frozen=>.cells #[.iface 183 (.pointer (some ⟨CW+2,0,none⟩))] t frozen
   | o=>o).modify 4 fun
   | .cells _ t frozen=>.cells #[.slice (some ⟨CW+3,0,none⟩) 20 20] t frozen
   | o=>o).modify 5 fun
   | .cells _ t frozen=>.cells #[.slice (some ⟨CW+4,0,none⟩) 21 21] t frozen
   | o=>o }
theorem cM (os:Os) (args:Array Value):laidMet Tryz.prog ew ((dN os).forCall (fun _ _=>0) ⟨#[],args,[]⟩).memory :=
 laidMet_of_run' 64 (by kernel_rfl) (by kernel_rfl)
theorem cW {W:World}:laidMetH Tryz.prog ew W ↔ laidMet Tryz.prog ew W:=Iff.rfl
theorem cy {f:FuncId} {fn:Func} {s:ChangeSpec} {laid:List (String×DataW Unit)} (os:Os) (started:os.Started) (H:Type) (enc:TypeId×Value->H)
  (k:s.vars=[]) (O:Tryz.prog.funcs[f]? = some fn) (K:fn.resultTypes=#[4]) (hi:Tryz.prog.inits.idxOf? f=none)
  (I:(fn.params.toList.all fun t=>Tryz.prog.readableRec t&&decide (t<Tryz.prog.types.size))=true)
  (y:∀l:List (DataW H),l.length=fn.params.size->s.fn H (l++[])={ results:=[.lit (.bool true)],args:=l })
  (w0:World) (i:Array Value) (fuel:Nat) (M:w0.os=os)
  (U:(w0.forCall (fun _ _=>0) ⟨#[],i,[]⟩).variablesRefB Tryz.prog=true)
  (hr:((w0.forCall (fun _ _=>0) ⟨#[],i,[]⟩).heap.toList.drop Tryz.prog.globals.size).take ((begin Tryz.prog (fun _ _=>0) default).world.heap.size-Tryz.prog.globals.size) =
   (begin Tryz.prog (fun _ _=>0) default).world.heap.toList.drop Tryz.prog.globals.size)
  (dE:Input.okWideB Tryz.prog (w0.forCall (fun _ _=>0) ⟨#[],i,[]⟩) f ⟨#[],i,[]⟩=true)
  (hpre:s.preB enc Tryz.prog fn [] false (w0.forCall (fun _ _=>0) ⟨#[],i,[]⟩).memory i fuel=true)
  (hsz:s.sizedB enc Tryz.prog fn false (w0.forCall (fun _ _=>0) ⟨#[],i,[]⟩).memory i fuel=true)
  (hx:laidMetH Tryz.prog laid (w0.forCall (fun _ _=>0) ⟨#[],i,[]⟩).memory)
  (trip:∀(W:World) (base:Nat) (args:Array Value) (l:List (DataW H)) (p:List MemPlace),
   (∀(j:Nat) t v,fn.params[j]? = some t->args[j]? = some v->Value.okWide Tryz.prog W .any base t v) ->
   DataW.TrodAll enc Tryz.prog W 0 (fun _=>true) true fn.params.toList args.toList l p->laidMetH Tryz.prog laid W ->
   av Tryz.prog (iv W.heap) f args [] (fun v _=>v = .bool true)) (fr:Bool) :
  ReturnsInHanded {} Tryz.checked os f .any (fun w args=>(s.pre enc Tryz.prog fn [] false w args/\laidMetH Tryz.prog laid w)/\sizedMet enc Tryz.prog fn (OpenSpec.ofChange s) false w args)
   (s.post enc Tryz.prog fn false fr false false):=by
 refine returnsInHanded_of_change_and (C:=Tryz.checked) (X:=fun w _=>laidMetH Tryz.prog laid w) (fun _ _ _ hh h=>h.of_heap hh) CS started hi O
  (ChangeSpec.witness_shaped (enc:=enc) (C:=Tryz.checked) (os:=os) (X:=fun w _=>laidMetH Tryz.prog laid w) false w0 i fuel M (World.shaped_of_RefB U hr) dE hpre hsz hx) ?_
 intro W base args l Y before F V _ _ hL _
 have J:=V
 obtain⟨p,q,u,z,rfl,ab,ad⟩:=V
 rw[k] at z
 obtain⟨rfl,rfl⟩:Y=[]/\q=[]:=by
  cases Y with
  | nil=>exact⟨rfl,z⟩
  | cons g r=>exact absurd z (by intro h;cases h)
 refine(tB (trip W base args l p F u hL)).mono fun e W' ⟨v,m,he,hb,U⟩=>?_
 subst he U
 have hlen:=(trodAll_length u).2
 have B:=y l (by rw[hlen];simp)
 refine⟨_,rfl,l,[],p++[],[],p,[],J,?_,?_,?_,hb.frame _,fun h=>by cases h⟩
 ·rw[B,K]
  cases fr<;>exact trodAll_mk1 (shut_bool (pK (P:=Tryz.prog) (T:=4) rfl) true)
 ·rw[B];exact tC Fa hb _ (fun t ht=>by have:=List.all_eq_true.1 I t ht;simp only[Bool.and_eq_true,decide_eq_true_eq] at this;exact this) u fun x hx=>J.lt x (List.mem_append.2 (.inl hx))
 ·rw[B,k];rfl
end Go.Proofs.YtogmacnlpclgkaaGreatDoor
