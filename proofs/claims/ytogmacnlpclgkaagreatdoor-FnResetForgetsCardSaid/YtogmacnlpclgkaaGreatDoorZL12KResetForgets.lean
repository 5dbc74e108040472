/- Texts L12KResetForgets. -/
import Derived.Test.YtogmacnlpclgkaaGreatDoorX38
set_option linter.all false
namespace Go.Proofs.YtogmacnlpclgkaaGreatDoor
open Go Go.Eng Go.Pz
attribute [local irreducible] RO J av aO
set_option maxRecDepth 20000
variable {G:ao} {dat:Nat->Nat} {N:Nat}
set_option maxHeartbeats 1000000 in
theorem GF (S:bN G) (V:jW G) (hd:∀i,dat i<256) (oa:Option Addr) (cp:Nat) (hv:aU G oa N cp dat) (hN:N<2^60) (ob:Option Addr) (n cq:Nat) (z:Nat->Int) (hz:fR G ob n cq z) (hn:n<=2^39) (a3:∀i,i<n->z i<=4194304)
  {y:Nat->Nat} {M:Nat} (hy:∀i,y i<256) (u:Option Addr) (C:Nat) (hw:aU G u M C y) (hM:M<2^60) (v:Nat) (R:List Nat->Prop) (hT:∀q:PS CE,∃T,gk y M q.reset T v/\T.length<=2^39/\R T) :
  av Tryz.prog G 28 #[.slice oa N cp,.slice ob n cq,.slice u M C] [] (fun w m=>∃H bl em a c ou cu T O,w = .tuple #[.slice a n c,.slice ou T.length cu,.bool (decide (v=1))]/\m=H++(bl++em)/\Hd dat N (PS.init CE.zero) z (.slice a n c) n H bl /\
   dH 1 (.slice ou T.length cu) T.length (dw O) em/\R T/\∀i,i<T.length->T[i]? = some (O i)):=by
 obtain⟨fb,a6,a5,ba⟩:=V.fz
 refine bE Tryz.func28 fun c h0 hex=>?_
 refine go ?_
 refine ae (uZ oa N cp) ?_
 rintro v m ⟨bb,rfl,rfl⟩
 refine go ?_
 refine ae (kh G 58 (bf bb)) ?_
 rintro v m ⟨J,rfl,rfl⟩
 refine go ?_
 have bm:=sr S oa cp bb hv hN jd CE.zero ns J
 refine aH (σ:=JJ) [] (fun t=>[(2,.slice u M C),(9,bf J),(10,.slice t.oa t.i t.cp),(19,.slice ob n cq),(20,ay n),(21,ay t.i)]) (fun t=>t.m++(t.om++(t.bl++t.j)))
  (fun t=>t.i<=n/\jV (fH S dat oa N cp bb hv hN) jd J (cZ dat N (PS.init CE.zero) z t.i) t.m/\Hd dat N (PS.init CE.zero) z (.slice t.oa t.i t.cp) t.i t.om t.bl) (fun t=>n-t.i) ⟨0,_,[],[],[],none,0⟩ (by simp only[List.append_nil];exact .refl _)
  ⟨Nat.zero_le _,bm,fun _=>undef,.inl ⟨rfl,rfl,rfl⟩,fun i hi=>absurd hi (Nat.not_lt_zero _)⟩ ?_
 rintro⟨i,m1,H,bl,j1,be,a9⟩ f ⟨hi,U,am⟩
 dsimp only at hi U am ⊢
 refine go ?_
 refine ac rfl (fun b3=>?_) (fun b1=>?_)
 ·have Y:i<n:=aa
  obtain⟨b,o,B,rfl,hB,bv,a2⟩:=hz.some aa;refine go ?_;refine aK (v:=.int .i64 (z i)) rfl rfl (List.mem_append.2 (.inr hB)) aa (a2 i Y) rfl ?_
  refine go ?_;have bu:=a3 i Y
  refine ae (Ad V (fH S dat oa N cp bb hv hN) hd (rE S dat hd oa N cp bb hv hN) aa J _ m1 U (pG hd mK z i) (z i) aa) ?_ (fm:=H++(bl++j1)) (hs:=.refl _)
  rintro v m' ⟨m2,ax,l,h,F,rfl,rfl,ad⟩;have al:cZ dat N (PS.init CE.zero) z (i+1)=(im dat N (cZ dat N (PS.init CE.zero) z i) (z i)).1:=rfl
  obtain⟨cl,K,bs⟩:=am;generalize bq:im dat N (cZ dat N (PS.init CE.zero) z i) (z i)=r at F ad al;obtain⟨p2,k,code,D⟩:=r;dsimp only at F ad al ⊢;refine go ?_;refine eK (s:=2) [[ay k,.slice l k h,ay code]] rfl rfl z43 rfl (by decide) (fun a ha=>by rw[List.mem_singleton.1 ha];rfl) rfl rfl rfl hex fun eb b4=>?_
  refine go ?_;refine bg (s:=2) (src:=fun x=>(aj ([[Value.int .i64 (k:Nat),.slice l k h,ay code]].flatten) 43).g (0+x)) (k:=1) (len:=i) (v:=.slice be i a9) (cl:=cl) (sm:=H) (fm:=(eb,aj ([[Value.int .i64 (k:Nat),.slice l k h,ay code]].flatten) 43)::(ax++(m2++(bl++j1)))) rfl rfl rfl rfl z43 (by decide) rfl rfl K
   an (k_.of (B:=aj ([[Value.int .i64 (k:Nat),.slice l k h,ay code]].flatten) 43) (by simp) (by show 0+1*(2+1)<=3;decide)) (fun j hj=>?_) aa hex rfl ?_
  ·rw[Nat.zero_add]
   match j,hj with
   | 0,_=>rfl
   | 1,_=>rfl
   | 2,_=>rfl
  intro v' bd a0 bt
  obtain⟨bo,a4,rfl⟩:=bV a0;refine go ?_;refine⟨⟨i+1,m2,bd,ax++bl,(eb,aj ([[Value.int .i64 (k:Nat),.slice l k h,ay code]].flatten) 43)::j1,bo,a4⟩,by dsimp only;omega,⟨by dsimp only;omega,by dsimp only;rw[al];exact F,_,a0,fun x hx=>?_⟩,cF,.of_perm an⟩
  dsimp only at hx ⊢;by_cases he:x=i
  ·subst he;rw[bq];dsimp only;refine⟨l,h,?_,?_,?_,ad.mono fun p hp=>List.mem_append.2 (.inl hp)⟩
   ·rw[ah aa,show 3*x-x*(2+1)=0 from aa];rfl
   ·rw[ah aa,show 3*x+1-x*(2+1)=1 from aa];rfl
   ·rw[ah aa,show 3*x+2-x*(2+1)=2 from aa];rfl
  ·obtain⟨a7,br,c1,c2,c3,c4⟩:=bs x aa;refine⟨a7,br,?_,?_,?_,c4.mono fun p hp=>List.mem_append.2 (.inr hp)⟩
   ·rw[ai aa];exact c1
   ·rw[ai aa];exact c2
   ·rw[ai aa];exact c3
 ·obtain rfl:i=n:=aa;have ab:=pG (N:=N) hd mK z i
  generalize cZ dat N (PS.init CE.zero) z i=p at U ab;obtain⟨x,s,W,rest,jk,rfl,hb,a8⟩:=Cn U;obtain⟨T,aw,a1,hR⟩:=hT p;obtain⟨O',hA,_,hO⟩:=vX (fh y M) 4096 (by decide) T.length (aZ _) aw (fun _=>0) 0
  rw[Nat.zero_add] at hA;refine go ?_;refine ar (uZ u M C) ?_ (fm:=(J,az x s)::(jk++rest)++(H++(bl++j1))) (hs:=.of_perm an)
  rintro w m ⟨I,rfl,rfl⟩;refine go ?_;refine ar (zK G J x s 58 (bf I) W hb) ?_ (fm:=(I,tD u M C 0)::(jk++(rest++(H++(bl++j1))))) (hs:=.of_perm an)
  rintro w m rfl;have F:jV (fH S y u M C I hw hM) jd J p.reset ((J,az 0 (s.reset (.iface 58 (bf I)) W))::((I,tD u M C 0)::rest)):=a8 (fH S y u M C I hw hM) (0:Nat) (Nat.zero_le _) rfl
  refine go ?_;refine ar (Df (fH S y u M C I hw hM) hy (rE S y hy u M C I hw hM) jd (bG y M) _ (xu (fH S y u M C I hw hM) hy V.b0 V.b2 aa) (fh y M) CE.ini mJ fb a6 a5 ba aa oF (pq hy) J _ _ F (Co ab) (O',T.length,decide (v=1)) (fun _=>0) hA a1) ?_
   (fm:=jk++(H++(bl++j1))) (hs:=.of_perm an)
  rintro w em ⟨out,rfl,K⟩;obtain⟨ou,cu,rfl⟩:=bV K;refine go ?_;exact af (ii [6,7,8] (H++(bl++em)) ⟨H,bl,em,_,_,ou,cu,T,O',rfl,rfl,am,K,hR,fun i hi=>by rw[hO i hi,Nat.zero_add]⟩)
set_option maxHeartbeats 1000000 in
theorem qw (S:bN G) (V:jW G) (hd:∀i,dat i<256) (oa:Option Addr) (cp:Nat) (hv:aU G oa N cp dat) (ob:Option Addr) (n cq:Nat) (z:Nat->Int) (hz:fR G ob n cq z) {y:Nat->Nat} {M:Nat} (hy:∀i,y i<256) (oc:Option Addr) (cr:Nat) (hw:aU G oc M cr y) :
  av Tryz.prog G 14 #[.slice oa N cp,.slice ob n cq,.slice oc M cr] [] (fun v _=>v = .bool true):=by
 obtain⟨fb,al,ad,aw⟩:=V.fz
 refine bE Tryz.func14 fun c h0 hex=>?_
 refine go ?_
 refine aJ 17 rfl (fun h1=>?_) (fun h1=>?_)
 ·refine go ?_;exact af (ag [6] rfl)
 refine go ?_
 refine aJ 22 rfl (fun bt=>?_) (fun bt=>?_)
 ·refine go ?_;exact af (ag [6] rfl)
 refine go ?_
 refine ac rfl (fun h2=>?_) (fun h2=>?_)
 ·refine go ?_;exact af (ag [6] rfl)
 have hN:N<=2147483647:=aa
 have hn:n<=2147483647:=aa
 have hM:M<=2147483647:=aa
 refine go ?_
 refine ae (fi oc M cr hy hw aa) ?_
 rintro v m1 am
 obtain⟨l,l1,j,u,F,n1,C,rfl,bo⟩:=am.form
 clear am
 refine go ?_
 refine aC z29 rfl hex fun rb b6=>?_
 refine go ?_
 refine ak (s:=2) (vs:=[.slice l l1 j,ay u,.slice F n1 C]) rfl rfl rfl rfl (cC rfl) .here (aZ 3) rfl hex ?_
 refine bj (m':=(rb,cK l l1 j u F n1 C)::(m1++[])) ci ?_
 refine go ?_
 refine aJ 32 rfl (fun h3=>?_) (fun h3=>?_)
 ·refine go ?_;refine ae (cf S fb al ad aw) ?_ (fm:=_) (hs:=.refl _)
  rintro v m rfl;refine go ?_;exact af (bx [6] rfl)
 refine go ?_
 refine ar (qu ob n cq z hz aa) ?_ (fm:=(rb,cK l l1 j u F n1 C)::m1) (hs:=.of_perm an)
 rintro v m ⟨rfl,b,rfl,hb⟩
 refine go ?_
 cases b with
 | true =>
  refine ei rfl (fun ab=>?_) (fun ab=>by cases ab)
  refine go ?_;refine ae (cf S fb al ad aw) ?_ (fm:=_) (hs:=.refl _)
  rintro v m rfl;refine go ?_;exact af (bx [6] rfl)
 | false =>
 refine ei rfl (fun ab=>by cases ab) (fun _=>?_)
 have a7:=hb rfl
 obtain⟨v,R,hQ,a9⟩:∃(v:Nat) (R:List Nat->Prop),(∀q:PS CE,∃T,gk y M q.reset T v/\T.length<=2^39/\R T) /\
   ((u=1/\v=1/\∃O1 H Y,m1=H++Y/\dH 1 (.slice l l1 j) l1 (dw O1) H/\∀T,R T->T=txt O1 0 l1)\/(u=2/\v=2)):=by
  rcases bo with⟨h,O1,H,Y,e1,_,hm,a5,_⟩|⟨_,_,⟨h,e1⟩|⟨h,_⟩⟩
  ·refine⟨1,fun T=>T=txt O1 0 l1,fun q=>?_,.inl ⟨h,rfl,O1,H,Y,hm,a5,fun _ h=>h⟩⟩
   obtain⟨k1,k2⟩:=xY hy e1 q;exact⟨_,k1,by rw[de];omega,rfl⟩
  ·refine⟨2,fun _=>True,fun q=>?_,.inr ⟨h,rfl⟩⟩
   obtain⟨T,k1,k2⟩:=xZ hy e1 q;exact⟨T,k2,aa,trivial⟩
  ·omega
 refine go ?_
 refine ar (GF S V hd oa cp hv aa ob n cq z hz aa a7 hy oc cr hw aa v R hQ) ?_ (fm:=(rb,cK l l1 j u F n1 C)::m1) (hs:=.of_perm an)
 rintro w m ⟨I,J,um,a2,c2,ou,cu,T,O,rfl,rfl,ba,bb,bm,hO⟩
 generalize bd:T.length=tl at bb hO ⊢
 refine go ?_
 refine ar (rM S V hd oa cp hv aa ob n cq z hz aa a7) ?_ (fm:=(rb,cK l l1 j u F n1 C)::(m1++(I++(J++um)))) (hs:=.of_perm an)
 rintro w m ⟨U,W,rfl,ax⟩
 obtain⟨a3,c3,rfl⟩:=ax.form
 refine go ?_
 refine aJ 53 rfl (fun h=>absurd rfl h) (fun _=>?_)
 refine go ?_
 refine ac rfl (fun h=>absurd rfl h) (fun _=>?_)
 refine go ?_
 refine aH (σ:=Nat×ao) [] (fun t=>[(7,bf rb),(9,.slice ou tl cu),(10,.bool (decide (v=1))),(11,.slice a3 n c3),(60,.slice a2 n c2),(61,ay n),(62,ay t.1)])
  (fun t=>(rb,cK l l1 j u F n1 C)::(m1++(I++(J++(um++(U++(W++t.2))))))) (fun t=>t.1<=n) (fun t=>n-t.1) (0,[]) (.of_perm an) (Nat.zero_le _) ?_
 rintro⟨i,j1⟩ f hi
 dsimp only at hi ⊢
 refine go ?_
 refine ac rfl (fun b5=>?_) (fun b3=>?_)
 ·have a1:i<n:=aa
  obtain⟨b1,o1,B1,d1,e1,rfl,bc,bv,a6,x4⟩:=ba.at a1;obtain⟨b2,o2,B2,d2,e2,rfl,bs,b7,a4,y4⟩:=ax.at a1;generalize gJ dat N (PS.init CE.zero) z i=r at a6 a4 x4 y4;obtain⟨p2,k,code,D⟩:=r;dsimp only at a6 a4 x4 y4;have a0:[B2.g (o2+i*(2+1)+0),B2.g (o2+i*(2+1)+1),B2.g (o2+i*(2+1)+2)]=[ay k,.slice d2 k e2,ay code]:=a4
  simp only[List.cons.injEq,and_true] at a0
  obtain⟨y1,y2,y3⟩:=a0;refine go ?_;refine gL (s:=2) rfl rfl rfl (b:=b1) (B:=B1) (by simp[bc]) bv rfl ?_
  rw[a6];refine go ?_;refine aC z43 rfl hex fun cb b4=>?_
  refine go ?_;refine ak (s:=2) (vs:=[ay k,.slice d1 k e1,ay code]) rfl rfl rfl rfl (cC rfl) .here (aZ 3) rfl hex ?_
  refine bj (m':=(cb,aj [ay k,.slice d1 k e1,ay code] 43)::(rb,cK l l1 j u F n1 C)::(m1++(I++(J++(um++(U++(W++j1))))))) ci ?_
  have K:(b2,B2)∈((cb,aj [ay k,.slice d1 k e1,ay code] 43)::(rb,cK l l1 j u F n1 C)::(m1++(I++(J++(um++(U++(W++j1)))))))++G:=by simp[bs]
  refine go ?_;refine aK (v:=ay k) rfl rfl K aa y1 rfl ?_
  refine go ?_;refine aJ 75 rfl (fun h=>absurd rfl h) (fun _=>?_)
  refine go ?_;refine aK (v:=ay code) rfl rfl K aa y3 rfl ?_
  refine go ?_;refine aJ 85 rfl (fun h=>absurd rfl h) (fun _=>?_)
  refine go ?_;refine aK (v:=.slice d2 k e2) rfl rfl K aa y2 rfl ?_
  refine go ?_;refine ar (av.freeze (fm:=J++W) (jQ d1 d2 k k e1 e2 D D (x4.mono fun p hp=>by simp[hp]) (y4.mono fun p hp=>by simp[hp]) rfl fun _ _=>rfl)) ?_ (fm:=(cb,aj [ay k,.slice d1 k e1,ay code] 43)::(rb,cK l l1 j u F n1 C)::(m1++(I++(um++(U++j1))))) (hs:=.of_perm an)
  rintro v m ⟨m0,⟨br,rfl⟩,hm⟩;rw[hm,br,List.nil_append];refine go ?_;exact⟨(i+1,(cb,aj [ay k,.slice d1 k e1,ay code] 43)::j1),by dsimp only;omega,by dsimp only;omega,cF,.of_perm an⟩
 ·rcases a9 with⟨rfl,rfl,O1,H,Y,rfl,a5,bq⟩|⟨rfl,rfl⟩
  ·have a8:=bq T bm
   have be:tl=l1:=by rw[<- bd,a8,de];omega
   subst be;have am:=b_ a5
   have bu:=b_ bb
   have hE:∀i,i<tl->O i=O1 i:=fun i hi=>by
    have:=hO i hi
    rw[a8,fD aa,Nat.zero_add] at this;exact(Option.some.inj this).symm
   refine go ?_;refine ar (av.freeze (fm:=H++um) (jQ ou l tl tl cu j O O1 (bu.mono fun p hp=>by simp[hp]) (am.mono fun p hp=>by simp[hp]) rfl hE)) ?_ (fm:=(rb,cK l tl j 1 F n1 C)::(Y++(I++(J++(U++(W++j1)))))) (hs:=.of_perm an)
   rintro v m ⟨m0,⟨rfl,rfl⟩,rfl⟩;refine go ?_;refine ae (cf S fb al ad aw) ?_ (fm:=_) (hs:=.refl _)
   rintro v m rfl;refine go ?_;exact af (bx [6] rfl)
  ·refine go ?_;refine ae (cf S fb al ad aw) ?_ (fm:=_) (hs:=.refl _)
   rintro v m rfl;refine go ?_;exact af (bx [6] rfl)
end Go.Proofs.YtogmacnlpclgkaaGreatDoor
