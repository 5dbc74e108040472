/- Texts L4KCutIsTold. -/
import Derived.Test.YtogmacnlpclgkaaGreatDoorZL4
set_option linter.all false
namespace Go.Proofs.YtogmacnlpclgkaaGreatDoor
open Go Go.Eng Go.Pz
attribute [local irreducible] RO J av aO
set_option maxRecDepth 20000
variable {G:ao} {dat:Nat->Nat} {N:Nat}
theorem Ci (dat:Nat->Nat):gk dat 0 (PS.init CE.zero) [] 2:=Rem.stop (dat:=dat) (N:=0) (PS.init CE.zero) (by show(2:Nat)≠0;decide)
def y6 (l:List Nat) (y:Nat) (i:Nat):Bool:=decide (y=0)||(l.take i).contains y
theorem Cj {l:List Nat} {y i:Nat} (h:i<l.length):y6 l y (i+1)=(y6 l y i||decide ((y:Int)=(l.getD i 0:Nat))):=by
 unfold y6
 have e:l.getD i 0=l[i]:=by rw[List.getD_eq_getElem?_getD,List.getElem?_eq_getElem h];rfl
 rw[List.take_succ_eq_append_getElem h,List.contains_append,e,Bool.or_assoc]
 congr 2
 by_cases g:y=l[i]
 ·rw[decide_eq_true aa];simp[g]
 ·rw[decide_eq_false aa];simp[g]
set_option maxHeartbeats 1000000 in
theorem tI (S:bN G) (V:jW G) (hd:∀i,dat i<256) (K:Option Addr) (H:Nat) (hv:aU G K N H dat) (z:Int) (_ : -(2^63)<=z/\z<2^63) :
  av Tryz.prog G 5 #[.slice K N H,.int .i64 z] [] (fun v _=>v = .bool true):=by
 obtain⟨fb,C,u,F⟩:=V.fz
 have a2:=hv.le
 refine bE Tryz.func5 fun c h0 hex=>?_
 refine go ?_
 refine ac rfl (fun h1=>?_) (fun h1=>?_)
 ·refine go ?_;exact af (ag [4] rfl)
 have hN:N<=2147483647:=aa
 refine go ?_
 refine ae (fi K N H hd hv aa) ?_
 cases hr:cP dat N with
 | op =>
  rintro v m ⟨rfl,rfl⟩;refine go ?_;refine aC z29 rfl hex fun Y aw=>?_
  refine go ?_;refine ak (s:=2) (vs:=[.slice none 0 0,.int .i64 ((0:Nat):Int),.slice none 0 0]) rfl rfl rfl rfl (cC rfl) .here (aZ 3) rfl hex ?_
  refine go ?_;refine ld rfl ?_
  refine go ?_;refine ae (cf S fb C u F) ?_ (fm:=_) (hs:=.refl _)
  rintro v m rfl;refine go ?_;exact af (bx [4] rfl)
 | wr =>
  rintro v m ⟨rfl,rfl⟩;refine go ?_;refine aC z29 rfl hex fun Y aw=>?_
  refine go ?_;refine ak (s:=2) (vs:=[.slice none 0 0,.int .i64 ((2:Nat):Int),.slice none 0 0]) rfl rfl rfl rfl (cC rfl) .here (aZ 3) rfl hex ?_
  refine go ?_;refine ld rfl ?_
  refine go ?_;refine ae (cf S fb C u F) ?_ (fm:=_) (hs:=.refl _)
  rintro v m rfl;refine go ?_;exact af (bx [4] rfl)
 | ok R =>
  obtain⟨O,l⟩:=R;rintro v m ⟨k,j,ea,ec,M,em,rfl,rfl,a3,W⟩;have h0:=nz hr
  have am:=oE N hr (Nat.zero_le _) (Nat.zero_le _)
  obtain⟨_,_,_,_,ab,dE,ax⟩:=am;have hlen:=ti dat N N 0 0
  generalize iy dat N N 0 0=es at W ab dE ax hlen ⊢;have ad:0<es.length:=List.length_pos_iff.2 (ab h0)
  obtain⟨p,oe,BE,rfl,rfl,a1,al⟩:=uI W ad;generalize I:es.length=ne at a1 al hlen ad W ⊢;refine go ?_;refine aC z29 rfl hex fun Y aw=>?_
  refine go ?_;refine ak (s:=2) (vs:=[.slice k l j,.int .i64 ((1:Nat):Int),.slice (some ⟨p,oe,none⟩) ne ec]) rfl rfl rfl rfl (cC rfl) .here (aZ 3) rfl hex ?_
  refine bj (m':=(Y,cK k l j 1 (some ⟨p,oe,none⟩) ne ec)::(M++[(p,BE)]++[])) ci ?_
  refine go ?_;refine oI rfl ?_
  refine go ?_;refine ar (Ah z N h0 aa) ?_ (fm:=(Y,cK k l j 1 (some ⟨p,oe,none⟩) ne ec)::(M++[(p,BE)]++[])) (hs:=.refl _)
  rintro v m ⟨rfl,y,hy,rfl⟩;refine go ?_;have key:av Tryz.prog G 19 #[.slice K y H] [] (fun w _=>∃q l' g b,w = .tuple #[.slice q l' g,.bool b]/\(y6 es y ne=false->b=false)):=by
   by_cases a0:y=0
   ·subst a0;refine(kY S V hd K H (hv.cut (Nat.zero_le _)) aa (Ci dat) (by show 0<=_;omega)).mono ?_
    rintro w M ⟨q,g,O',rfl,_,_⟩;exact⟨_,_,_,_,rfl,fun h=>by cases h⟩
   by_cases U:y∈es
   ·obtain⟨O2,l2,h2,_,_⟩:=dE y U y (aZ _)
    refine(lO S V hd K H (hv.cut (Nat.le_of_lt hy)) aa (by unfold cP;rw[h2];exact fun h=>by cases h)).mono ?_
    unfold cP;rw[h2];rintro w M ⟨q,g,O',rfl,_,_⟩;refine⟨_,_,_,_,rfl,fun h=>?_⟩
    unfold y6 at h;rw[<- I,List.take_length] at h;simp[U] at h
   ·have h2:=ax y aa hy U y (aZ _)
    refine(lO S V hd K H (hv.cut (Nat.le_of_lt hy)) aa (by unfold cP;rw[h2];exact fun h=>by cases h)).mono ?_
    unfold cP;rw[h2];rintro w M ⟨q,l',g,rfl⟩;exact⟨_,_,_,_,rfl,fun _=>rfl⟩
  refine aH (σ:=Nat×Bool) [] (fun t=>[(0,.slice K N H),(1,ay y),(6,.bool t.2),(27,.slice (some ⟨p,oe,none⟩) ne ec),(28,ay ne),(29,ay t.1)])
   (fun _=>(Y,cK k l j 1 (some ⟨p,oe,none⟩) ne ec)::(M++[(p,BE)]++[])) (fun t=>t.1<=ne/\t.2=y6 es y t.1) (fun t=>ne-t.1) (0,decide ((y:Int)=0)) gX ⟨Nat.zero_le _,by
    unfold y6;by_cases h:y=0
    ·rw[decide_eq_true aa,decide_eq_true h];rfl
    ·rw[decide_eq_false aa,decide_eq_false h];rfl⟩ ?_
  rintro⟨i,w⟩ f ⟨hi,hw⟩;dsimp only at hi hw ⊢;refine go ?_;refine ac rfl (fun a5=>?_) (fun a4=>?_)
  ·have J:i<ne:=aa
   have r:=Cj (y:=y) (i:=i) (by rw[I];exact J)
   rw[<- hw] at r;refine go ?_;refine aK (v:=.int .i64 (es.getD i 0:Nat)) rfl rfl (b:=p) (B:=BE) (by simp) aa (al i J) rfl ?_
   generalize es.getD i 0=e at r
   cases w with
   | true =>
    refine go ?_;exact⟨(i+1,true),by dsimp only;omega,⟨by dsimp only;omega,r.symm⟩,cF,.refl _⟩
   | false =>
    refine go ?_;exact⟨(i+1,decide ((y:Int)=(e:Nat))),by dsimp only;omega,⟨by dsimp only;omega,by rw[r];rfl⟩,cF,.refl _⟩
  ·have he:i=ne:=aa
   subst he;refine go ?_;refine fu y hv rfl rfl rfl rfl rfl aa rfl ?_
   refine go ?_;refine ar key ?_ (fm:=(Y,cK k l j 1 (some ⟨p,oe,none⟩) i ec)::(M++[(p,BE)]++[])) (hs:=.refl _)
   rintro v a6 ⟨q,l',g,b,rfl,hb⟩
   cases w with
   | true =>
    refine go ?_;refine ae (cf S fb C u F) ?_ (fm:=_) (hs:=.refl _)
    rintro v m rfl;refine go ?_;exact af (bx [4] rfl)
   | false =>
    obtain rfl:=hb hw.symm
    refine go ?_;refine ae (cf S fb C u F) ?_ (fm:=_) (hs:=.refl _)
    rintro v m rfl;refine go ?_;exact af (bx [4] rfl)
end Go.Proofs.YtogmacnlpclgkaaGreatDoor
