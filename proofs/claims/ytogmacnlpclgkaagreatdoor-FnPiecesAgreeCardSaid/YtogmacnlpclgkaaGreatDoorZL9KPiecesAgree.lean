/- Texts L9KPiecesAgree. -/
import Derived.Test.YtogmacnlpclgkaaGreatDoorX38
import Derived.Test.YtogmacnlpclgkaaGreatDoorZL2
import Derived.Test.YtogmacnlpclgkaaGreatDoorZP21
set_option linter.all false
namespace Go.Proofs.YtogmacnlpclgkaaGreatDoor
open Go Go.Eng Go.Pz
attribute [local irreducible] RO J av aO
set_option maxRecDepth 20000
variable {G:ao} {dat:Nat->Nat} {N:Nat}
structure KM where
 i:Nat
 oa:Option Addr
 cp:Nat
 am:ao
 j:ao
set_option maxHeartbeats 1000000 in
theorem rk (S:bN G) (V:jW G) (hd:∀i,dat i<256) (oa:Option Addr) (cp:Nat) (hv:aU G oa N cp dat) (ob:Option Addr) (n cq:Nat) (z:Nat->Int) (hz:fR G ob n cq z) :
  av Tryz.prog G 11 #[.slice oa N cp,.slice ob n cq] [] (fun v _=>v = .bool true):=by
 obtain⟨fb,a1,a0,a4⟩:=V.fz
 refine bE Tryz.func11 fun c h0 hex=>?_
 refine go ?_
 refine aJ 14 rfl (fun h1=>?_) (fun h1=>?_)
 ·refine go ?_;exact af (ag [4] rfl)
 refine go ?_
 refine ac rfl (fun h2=>?_) (fun h2=>?_)
 ·refine go ?_;exact af (ag [4] rfl)
 have hN:N<=2147483647:=aa
 have hn:n<=2147483647:=aa
 refine go ?_
 refine ae (fi oa N cp hd hv aa) ?_
 rintro v m1 K
 obtain⟨q,l1,l,bb,y,n1,u,rfl,bs⟩:=K.form
 clear K
 refine go ?_
 refine aC z29 rfl hex fun rb b5=>?_
 refine go ?_
 refine ak (s:=2) (vs:=[.slice q l1 l,ay bb,.slice y n1 u]) rfl rfl rfl rfl (cC rfl) .here (aZ 3) rfl hex ?_
 refine bj (m':=(rb,cK q l1 l bb y n1 u)::(m1++[])) ci ?_
 refine go ?_
 refine aJ 24 rfl (fun h3=>?_) (fun h3=>?_)
 ·refine go ?_;refine ae (cf S fb a1 a0 a4) ?_ (fm:=_) (hs:=.refl _)
  rintro v m rfl;refine go ?_;exact af (bx [4] rfl)
 obtain⟨rfl,O1,F,a5,e1,_,rfl,bq,_⟩:=bs.resolve_right fun h=>h.1 aa
 obtain⟨al,b6⟩:=jz hd e1
 have K:=b_ bq
 have hT:(txt O1 0 l1).length=l1:=by rw[de];omega
 refine go ?_
 refine ar (qu ob n cq z hz aa) ?_ (fm:=(rb,cK q l1 l 1 y n1 u)::(F++a5)) (hs:=.of_perm an)
 rintro v m ⟨rfl,b,rfl,hb⟩
 refine go ?_
 cases b with
 | true =>
  refine ei rfl (fun Y=>?_) (fun Y=>by cases Y)
  refine go ?_;refine ae (cf S fb a1 a0 a4) ?_ (fm:=_) (hs:=.refl _)
  rintro v m rfl;refine go ?_;exact af (bx [4] rfl)
 | false =>
 refine ei rfl (fun Y=>by cases Y) (fun _=>?_)
 have bo:=hb rfl
 refine go ?_
 refine ar (rM S V hd oa cp hv aa ob n cq z hz aa bo) ?_ (fm:=(rb,cK q l1 l 1 y n1 u)::(F++a5)) (hs:=.of_perm an)
 rintro v m ⟨U,W,rfl,ba⟩
 obtain⟨a2,c2,rfl⟩:=ba.form
 refine go ?_
 refine aH (σ:=KM) [] (fun t=>[(1,.slice ob n cq),(5,bf rb),(6,.slice t.oa (iu dat N (PS.init CE.zero) z t.i) t.cp),(7,.bool (qv dat N (PS.init CE.zero) z t.i)),(8,.slice a2 n c2),(32,.slice a2 n c2),(33,ay n),(34,ay t.i)])
  (fun t=>(rb,cK q l1 l 1 y n1 u)::(F++(U++(W++(t.am++t.j)))))
  (fun t=>t.i<=n/\dH 1 (.slice t.oa (iu dat N (PS.init CE.zero) z t.i) t.cp) (iu dat N (PS.init CE.zero) z t.i) (dw O1) t.am) (fun t=>n-t.i) ⟨0,none,0,[],a5⟩ (.of_perm an) ⟨Nat.zero_le _,.inl ⟨rfl,rfl,rfl⟩⟩ ?_
 rintro⟨i,ax,cx,am,j1⟩ f ⟨hi,J⟩
 dsimp only at hi J ⊢
 refine go ?_
 refine ac rfl (fun b3=>?_) (fun bv=>?_)
 ·have aw:i<n:=aa
  obtain⟨b1,o1,B1,d1,e1,rfl,bd,a9,eL,x4⟩:=ba.at aw;have hk:=G7 (dat:=dat) (N:=N) (cZ dat N (PS.init CE.zero) z i) (z i)
  have C:=EP al z i
  have I:iu dat N (PS.init CE.zero) z (i+1)=iu dat N (PS.init CE.zero) z i+(gJ dat N (PS.init CE.zero) z i).2.1:=rfl
  have ab:qv dat N (PS.init CE.zero) z (i+1)=(qv dat N (PS.init CE.zero) z i||decide ((gJ dat N (PS.init CE.zero) z i).2.2.1=1)):=rfl
  change (gJ dat N (PS.init CE.zero) z i).2.1<=_ at hk
  change (gJ dat N (PS.init CE.zero) z i).2.2.1<=1/\(_->(gJ dat N (PS.init CE.zero) z i).2.1=0/\(gJ dat N (PS.init CE.zero) z i).2.2.1=1)/\_+(gJ dat N (PS.init CE.zero) z i).2.1<=_/\(∀j,j<(gJ dat N (PS.init CE.zero) z i).2.1->_=some ((gJ dat N (PS.init CE.zero) z i).2.2.2 j))/\((_||decide ((gJ dat N (PS.init CE.zero) z i).2.2.1=1))=true->_+(gJ dat N (PS.init CE.zero) z i).2.1=_) at C
  generalize gJ dat N (PS.init CE.zero) z i=r at eL x4 hk C I ab;generalize b7:iu dat N (PS.init CE.zero) z i=L at C I J ⊢;generalize bu:qv dat N (PS.init CE.zero) z i=E at C ab ⊢;obtain⟨p2,k,code,D⟩:=r;rw[hT] at C;dsimp only at eL x4 hk C I ab;obtain⟨g1,g2,g3,g4,g5⟩:=C;have hD:∀j,j<k->D j=O1 (L+j):=fun j hj=>by
   have:=g4 j hj
   rw[fD aa,Nat.zero_add] at this;exact(Option.some.inj this).symm
  refine go ?_;refine gL (s:=2) rfl rfl rfl (b:=b1) (B:=B1) (by simp[bd]) a9 rfl ?_
  rw[eL];refine go ?_;refine aC z43 rfl hex fun cb b2=>?_
  refine go ?_;refine ak (s:=2) (vs:=[ay k,.slice d1 k e1,ay code]) rfl rfl rfl rfl (cC rfl) .here (aZ 3) rfl hex ?_
  refine bj (m':=(cb,aj [ay k,.slice d1 k e1,ay code] 43)::(rb,cK q l1 l 1 y n1 u)::(F++(U++(W++(am++j1))))) ci ?_
  refine kt ?_;refine dk ?_;refine dk ?_;refine kO (qs:=[26]) (List.range 46) rfl (by kernel_rfl) ?_
  refine go ?_;refine aJ 42 rfl (fun h=>absurd h aa) (fun _=>?_)
  refine go ?_;obtain⟨b0,o0,B0,rfl,br,bt,a8⟩:=hz.some aa;refine aJ 50 rfl (fun h=>absurd rfl h) (fun _=>?_)
  refine go ?_;refine aK (v:=.int .i64 (z i)) rfl rfl (List.mem_append.2 (.inr br)) aa (a8 i aw) rfl ?_
  refine go ?_;refine aA (xU (z i)) ?_
  refine go ?_;refine aJ 60 rfl (fun h=>absurd h aa) (fun _=>?_)
  refine go ?_;refine aJ 65 rfl (fun h=>absurd h aa) (fun _=>?_)
  have done:∀E',E'=(E||decide (code=1))->∀(a:Option Addr) (cc:Nat) (sm:ao),dH 1 (.slice a (L+k) cc) (L+k) (dw (gY L O1 D)) sm->dH 1 (.slice a (iu dat N (PS.init CE.zero) z (i+1)) cc) (iu dat N (PS.init CE.zero) z (i+1)) (dw O1) sm/\qv dat N (PS.init CE.zero) z (i+1)=E':=fun E' bc a cc sm hs=>by
   rw[I,ab,bc];refine⟨bR hs fun x hx=>?_,rfl⟩
   unfold dw gY;by_cases h:x<L
   ·rw[ai h]
   ·rw[ah h,hD _ aa];congr 3;omega
  cases E with
  | true =>
   obtain⟨b4,ad⟩:=g2 rfl;have be:=g5 rfl
   refine go ?_;refine aJ 71 rfl (fun h=>absurd h aa) (fun _=>?_)
   refine go ?_;refine aJ 75 rfl (fun h=>absurd h aa) (fun _=>?_)
   refine go ?_;refine eP (sm:=am) (fm:=(cb,aj [ay k,.slice d1 k e1,ay code] 43)::(rb,cK q l1 l 1 y n1 u)::(F++(U++(W++j1)))) rfl rfl rfl rfl z5 (by decide) rfl rfl J an rfl (x4.mono fun p hp=>by simp[hp]) aa hex rfl ?_
   intro M c3 H g;obtain⟨g,O⟩:=done true rfl M c3 H g;refine go ?_;refine ac rfl (fun h=>absurd h aa) (fun _=>?_)
   refine go ?_;exact⟨⟨i+1,M,c3,H,(cb,aj [ay k,.slice d1 k e1,ay code] 43)::j1⟩,by dsimp only;omega,⟨by dsimp only;omega,g⟩,⟨rfl,rfl,by show Value.slice M (L+k) c3=Value.slice M (iu dat N (PS.init CE.zero) z (i+1)) c3;rw[I],by show Value.bool true=Value.bool (qv dat N (PS.init CE.zero) z (i+1));rw[O],rfl,rfl,rfl,rfl,trivial⟩,.of_perm an⟩
  | false =>
   refine go ?_;refine eP (sm:=am) (fm:=(cb,aj [ay k,.slice d1 k e1,ay code] 43)::(rb,cK q l1 l 1 y n1 u)::(F++(U++(W++j1)))) rfl rfl rfl rfl z5 (by decide) rfl rfl J an rfl (x4.mono fun p hp=>by simp[hp]) aa hex rfl ?_
   intro M c3 H g;refine go ?_;refine aJ 96 rfl (fun h=>?_) (fun h=>?_)
   ·have ad:code=1:=aa
    obtain⟨g,O⟩:=done true (by rw[ad];rfl) M c3 H g
    have be:=g5 (by rw[ad];rfl)
    refine go ?_;refine ac rfl (fun h=>absurd h aa) (fun _=>?_)
    refine go ?_;exact⟨⟨i+1,M,c3,H,(cb,aj [ay k,.slice d1 k e1,ay code] 43)::j1⟩,by dsimp only;omega,⟨by dsimp only;omega,g⟩,⟨rfl,rfl,by show Value.slice M (L+k) c3=Value.slice M (iu dat N (PS.init CE.zero) z (i+1)) c3;rw[I],by show Value.bool (decide ((code:Int)=1))=Value.bool (qv dat N (PS.init CE.zero) z (i+1));rw[O,ad];rfl,rfl,rfl,rfl,rfl,trivial⟩,.of_perm an⟩
   ·have a7:code=0:=aa
    obtain⟨g,O⟩:=done false (by rw[a7];rfl) M c3 H g
    refine go ?_;exact⟨⟨i+1,M,c3,H,(cb,aj [ay k,.slice d1 k e1,ay code] 43)::j1⟩,by dsimp only;omega,⟨by dsimp only;omega,g⟩,⟨rfl,rfl,by show Value.slice M (L+k) c3=Value.slice M (iu dat N (PS.init CE.zero) z (i+1)) c3;rw[I],by show Value.bool (decide ((code:Int)=1))=Value.bool (qv dat N (PS.init CE.zero) z (i+1));rw[O,a7];rfl,rfl,rfl,rfl,rfl,trivial⟩,.of_perm an⟩
 ·obtain rfl:i=n:=aa;obtain⟨_,a6,_⟩:=gW al z i;rw[hT] at a6;generalize iu dat N (PS.init CE.zero) z i=L at a6 J ⊢;have bm:=b_ J
  refine go ?_;refine aJ 118 rfl (fun _=>?_) (fun h=>absurd aa h)
  refine go ?_;refine fu L K rfl rfl rfl rfl rfl (by have:=K.le;omega) rfl ?_
  refine go ?_;refine ar (av.freeze (fm:=F++am) (jQ ax q L L cx l O1 O1 (bm.mono fun p hp=>by simp[hp]) ((K.cut a6).mono fun p hp=>by simp[hp]) rfl fun _ _=>rfl)) ?_ (fm:=(rb,cK q l1 l 1 y n1 u)::(U++(W++j1))) (hs:=.of_perm an)
  rintro v m ⟨m0,⟨rfl,rfl⟩,rfl⟩;refine go ?_;refine ae (cf S fb a1 a0 a4) ?_ (fm:=_) (hs:=.refl _)
  rintro v m rfl;refine go ?_;exact af (bx [4] rfl)
end Go.Proofs.YtogmacnlpclgkaaGreatDoor
