/- Texts 20. -/
import Derived.Test.YtogmacnlpclgkaaGreatDoorX19
set_option linter.all false
namespace Go.Proofs.YtogmacnlpclgkaaGreatDoor
open Go Go.Eng Go.Pz
attribute [local irreducible] RO J av aO
set_option maxRecDepth 20000
variable {G:ao} {d:Nat->Nat}
theorem un {a b:Nat} (h:a=b):Value.int .i64 ((a:Nat):Int) = .int .i64 ((b:Nat):Int):=by rw[h]
def up (g:Nat->Value) (o n:Nat) (f:Nat->Nat):Prop:=∀j,j<n->g (o+j) = .int .u8 ((f j:Nat):Int)
theorem up.zero (g:Nat->Value) (o:Nat) (f:Nat->Nat):up g o 0 f:=fun _ h=>absurd h (Nat.not_lt_zero _)
theorem up.other {g:Nat->Value} {o n p:Nat} {f:Nat->Nat} {v:Value} (h:up g o n f) (k:p<o\/o+n<=p):up (gK g p v) o n f:=fun j i=>by rw[aT _ _ _ _ aa];exact h j i
theorem up.snoc {g:Nat->Value} {o n p:Nat} {f:Nat->Nat} {v:Value} (h:up g o n f) (i:p=o+n) (k:v = .int .u8 ((f n:Nat):Int)):up (gK g p v) o (n+1) f:=fun j q=>by
 by_cases l:j=n
 ·subst l;rw[<- i,cG];exact k
 ·rw[aT _ _ _ _ aa];exact h j aa
structure J9 where
 i:Nat
 g:Nat->Value
 k1:Nat
 B1:Nat
 k2:Nat
 B2:Nat
 k3:Nat
 B3:Nat
 k4:Nat
 B4:Nat
set_option maxHeartbeats 4000000 in
theorem H1 (S:bN G) (q tb:Nat) (x:Int) (s:RS) (da:Option Addr) (n r:Nat) (hd:∀i,d i<256) (U:aU G da n r d) (hn:n<=2^20) (hb:Nat) (ht:Nat->Nat) (O:x7 hb ht) (off F K:Nat) (bo:2<=off) (eh:off+F<=n) (hK:K<=131072) (va:Option Addr) (vc:Nat) (D:Nat->Nat) (sm:ao) (hl:nd (.slice va 0 vc) 0 D sm) :
  av Tryz.prog G 108 #[bf q,.slice da n r,ay off,ay F,ay K,.slice va 0 vc] ((q,az x (s.wHuf (.slice (bi tb) 2048 2048) hb))::(tb,bn .u16 2048 ht 157)::sm) (H0 S q tb x (s.wHuf (.slice (bi tb) 2048 2048) hb) ht sm K (nI ht hb d n off F K)):=by
 refine bE Tryz.func108 fun c h0 hex=>?_
 have d1:=U.le
 have er:=O.b1
 have b5:=O.b11
 have ds:2^hb<=2^11:=Nat.pow_le_pow_right aa b5
 have eo:1<=2^hb:=Nat.one_le_two_pow
 refine go ?_
 refine ac rfl (fun d0=>?_) (fun d3=>?_)
 ·have hL:nI ht hb d n off F K=none:=by unfold nI;rw[ai aa]
  rw[hL];refine go ?_;refine ae (eZ S q x (s.wHuf (.slice (bi tb) 2048 2048) hb) _) ?_
  rintro v m ⟨⟨b',rfl⟩,rfl⟩;refine go ?_;refine af ?_;exact ag [12,13] (post:=(q,az x (s.wHuf (.slice (bi tb) 2048 2048) hb))::(tb,bn .u16 2048 ht 157)::sm) ⟨_,sm,rfl,⟨b',rfl⟩,Kp.refl _,rfl⟩
 ·refine go ?_;refine ac rfl (fun h6=>?_) (fun h6=>?_)
  ·have hL:nI ht hb d n off F K=none:=by unfold nI;rw[ah aa,ai aa]
   rw[hL];refine go ?_;refine ae (c_ S q x (s.wHuf (.slice (bi tb) 2048 2048) hb) _ _) ?_
   rintro v m ⟨⟨b',rfl⟩,rfl⟩;refine go ?_;refine af ?_;exact ag [12,13] (post:=(q,az x (s.wHuf (.slice (bi tb) 2048 2048) hb))::(tb,bn .u16 2048 ht 157)::sm) ⟨_,sm,rfl,⟨b',rfl⟩,Kp.refl _,rfl⟩
  ·obtain⟨e,he⟩:∃e,e=(K+3)/4:=⟨_,rfl⟩
   refine go ?_;rw[<- he];refine go ?_;refine ac rfl (fun cS=>?_) (fun cS=>?_)
   ·have hL:nI ht hb d n off F K=none:=by unfold nI;rw[ah aa,ah aa,ai aa]
    rw[hL];refine go ?_;refine ae (c_ S q x (s.wHuf (.slice (bi tb) 2048 2048) hb) _ _) ?_
    rintro v m ⟨⟨b',rfl⟩,rfl⟩;refine go ?_;refine af ?_;exact ag [12,13] (post:=(q,az x (s.wHuf (.slice (bi tb) 2048 2048) hb))::(tb,bn .u16 2048 ht 157)::sm) ⟨_,sm,rfl,⟨b',rfl⟩,Kp.refl _,rfl⟩
   ·obtain⟨s1,bq⟩:∃s1,s1=v5 (fun i=>d (off+i)):=⟨_,rfl⟩
    obtain⟨s2,bc⟩:∃s2,s2=v5 (fun i=>d (off+2+i)):=⟨_,rfl⟩
    obtain⟨s3,ba⟩:∃s3,s3=v5 (fun i=>d (off+4+i)):=⟨_,rfl⟩
    have l2:∀p,v5 (fun i=>d (p+i))<65536:=fun p=>by have:=hd (p+0);have:=hd (p+1);unfold v5;dsimp only;omega
    have b1:s1<65536:=by rw[bq];exact l2 _
    have b2:s2<65536:=by rw[bc];exact l2 _
    have b3:s3<65536:=by rw[ba];exact l2 _
    have hL:nI ht hb d n off F K=if F-6<s1+s2+s3 then none else qS ht hb d (off+5) (off+5+s1) (off+5+s1+s2) (off+5+s1+s2+s3) (off+5+s1+s2+s3+(F-6-(s1+s2+s3))) K:=by
     unfold nI;rw[ah aa,ah aa,ah aa,bq,bc,ba]
     rfl
    refine go ?_;refine cT off n U rfl rfl rfl rfl rfl rfl rfl aa aa rfl ?_
    refine go ?_;refine aA (yx ((U.sub (l:=off) (h:=n) aa aa).add) (fun i=>hd _) aa) ?_
    rw[<- bq];refine go ?_;refine cT (off+2) n U rfl rfl rfl rfl rfl rfl rfl aa aa rfl ?_
    refine go ?_;refine aA (yx ((U.sub (l:=off+2) (h:=n) aa aa).add) (fun i=>hd _) aa) ?_
    rw[<- bc];refine go ?_;refine cT (off+4) n U rfl rfl rfl rfl rfl rfl rfl aa aa rfl ?_
    refine go ?_;refine aA (yx ((U.sub (l:=off+4) (h:=n) aa aa).add) (fun i=>hd _) aa) ?_
    rw[<- ba];refine go ?_;refine ac rfl (fun b4=>?_) (fun b4=>?_)
    ·rw[hL,ai aa];refine go ?_;refine ae (eZ S q x (s.wHuf (.slice (bi tb) 2048 2048) hb) _) ?_
     rintro v m ⟨⟨b',rfl⟩,rfl⟩;refine go ?_;refine af ?_;exact ag [12,13] (post:=(q,az x (s.wHuf (.slice (bi tb) 2048 2048) hb))::(tb,bn .u16 2048 ht 157)::sm) ⟨_,sm,rfl,⟨b',rfl⟩,Kp.refl _,rfl⟩
    ·rw[ah aa] at hL;rw[hL];obtain⟨b0,z0,rfl⟩:=U.some aa;obtain⟨J,cl⟩:∃J,J=off+5:=⟨_,rfl⟩
     obtain⟨o1,ca⟩:∃o1,o1=J+s1:=⟨_,rfl⟩
     obtain⟨o2,bo⟩:∃o2,o2=o1+s2:=⟨_,rfl⟩
     obtain⟨o3,cd⟩:∃o3,o3=o2+s3:=⟨_,rfl⟩
     obtain⟨B,ce⟩:∃B,B=o3+(F-6-(s1+s2+s3)):=⟨_,rfl⟩
     rw[<- cl,<- ca,<- bo,<- cd,<- ce];obtain⟨R,hR⟩:∃R,R=qS ht hb d J o1 o2 o3 B K:=⟨_,rfl⟩
     rw[<- hR];unfold qS at hR;rw[<- he] at hR;have I:R=none->∀(e:Value) (al:ao),dM S .z e->Kp sm al->H0 S q tb x (s.wHuf (.slice (bi tb) 2048 2048) hb) ht sm K R (.tuple #[.slice none 0 0,e]) ((q,az x (s.wHuf (.slice (bi tb) 2048 2048) hb))::(tb,bn .u16 2048 ht 157)::al):=fun h e al h1 h2=>by
      rw[h];exact⟨e,al,rfl,h1,h2,rfl⟩
     refine go ?_;rw[show off+6-1=J from aa,<- ca,<- bo,<- cd,<- ce];rw[show J+1-2=J-1 from aa];refine ae (n6 S q x (s.wHuf (.slice (bi tb) 2048 2048) hb) _ n r hd U hn o1 (J-1) aa aa) ?_
     rintro v m ⟨rfl,a5⟩;by_cases Y:d o1=0
     ·rw[ai Y] at a5;obtain⟨e',rfl,⟨b',rfl⟩⟩:=a5;refine go ?_;refine aC z191 rfl hex fun vb bs=>?_
      refine go ?_;refine ak (s:=5) (vs:=[.pointer none,.slice none 0 0,.int .u32 0,.int .u32 0,.int .u32 0,.int .u32 0]) rfl rfl rfl rfl (cC rfl) .here (aZ 6) rfl hex ?_
      refine go ?_;refine af ?_;exact ag [12,13] (post:=(q,az x (s.wHuf (.slice (bi tb) 2048 2048) hb))::(tb,bn .u16 2048 ht 157)::sm) (I (by rw[hR,ai (by simp[Y])]) _ _ ⟨b',rfl⟩ (Kp.refl _))
     rw[ah Y] at a5;subst a5;refine go ?_;refine aC z191 rfl hex fun v1 dl=>?_
     refine go ?_;refine ak (s:=5) (vs:=[bf q,.slice (some ⟨b0,z0,none⟩) n r,.int .u32 (o1:Nat),.int .u32 ((J-1:Nat):Int),.int .u32 (d o1:Nat),.int .u32 (Nat.log2 (d o1):Nat)]) rfl rfl rfl rfl (cC rfl) .here (aZ 6) rfl hex ?_
     have eq:=(aW rfl rfl rfl rfl:bk.obj (⟨6,cQ (aj [.pointer none,.slice none 0 0,.int .u32 0,.int .u32 0,.int .u32 0,.int .u32 0] 191).g 0 (5+1) (ct [bf q,.slice (some ⟨b0,z0,none⟩) n r,.int .u32 (o1:Nat),.int .u32 ((J-1:Nat):Int),.int .u32 (d o1:Nat),.int .u32 (Nat.log2 (d o1):Nat)]),191,(0,0)⟩:bk)=(nG q (some ⟨b0,z0,none⟩) n r o1 (J-1) (d o1) (Nat.log2 (d o1))).obj)
     refine go ?_;rw[show o1+1-2=o1-1 from aa];refine ae (n6 S q x (s.wHuf (.slice (bi tb) 2048 2048) hb) _ n r hd U hn o2 (o1-1) aa aa) ?_
     rintro v m ⟨rfl,a7⟩;by_cases W:d o2=0
     ·rw[ai W] at a7;obtain⟨e',rfl,⟨b',rfl⟩⟩:=a7;refine go ?_;refine aC z191 rfl hex fun vb bs=>?_
      refine go ?_;refine ak (s:=5) (vs:=[.pointer none,.slice none 0 0,.int .u32 0,.int .u32 0,.int .u32 0,.int .u32 0]) rfl rfl rfl rfl (cC rfl) .here (aZ 6) rfl hex ?_
      refine go ?_;refine af ?_;exact ag [12,13] (post:=(q,az x (s.wHuf (.slice (bi tb) 2048 2048) hb))::(tb,bn .u16 2048 ht 157)::sm) (I (by rw[hR,ai (by simp[W])]) _ _ ⟨b',rfl⟩ (Kp.refl _))
     rw[ah W] at a7;subst a7;refine go ?_;refine aC z191 rfl hex fun v2 dm=>?_
     refine go ?_;refine ak (s:=5) (vs:=[bf q,.slice (some ⟨b0,z0,none⟩) n r,.int .u32 (o2:Nat),.int .u32 ((o1-1:Nat):Int),.int .u32 (d o2:Nat),.int .u32 (Nat.log2 (d o2):Nat)]) rfl rfl rfl rfl (cC rfl) .here (aZ 6) rfl hex ?_
     have ec:=(aW rfl rfl rfl rfl:bk.obj (⟨6,cQ (aj [.pointer none,.slice none 0 0,.int .u32 0,.int .u32 0,.int .u32 0,.int .u32 0] 191).g 0 (5+1) (ct [bf q,.slice (some ⟨b0,z0,none⟩) n r,.int .u32 (o2:Nat),.int .u32 ((o1-1:Nat):Int),.int .u32 (d o2:Nat),.int .u32 (Nat.log2 (d o2):Nat)]),191,(0,0)⟩:bk)=(nG q (some ⟨b0,z0,none⟩) n r o2 (o1-1) (d o2) (Nat.log2 (d o2))).obj)
     refine go ?_;rw[show o2+1-2=o2-1 from aa];refine ae (n6 S q x (s.wHuf (.slice (bi tb) 2048 2048) hb) _ n r hd U hn o3 (o2-1) aa aa) ?_
     rintro v m ⟨rfl,a8⟩;by_cases V:d o3=0
     ·rw[ai V] at a8;obtain⟨e',rfl,⟨b',rfl⟩⟩:=a8;refine go ?_;refine aC z191 rfl hex fun vb bs=>?_
      refine go ?_;refine ak (s:=5) (vs:=[.pointer none,.slice none 0 0,.int .u32 0,.int .u32 0,.int .u32 0,.int .u32 0]) rfl rfl rfl rfl (cC rfl) .here (aZ 6) rfl hex ?_
      refine go ?_;refine af ?_;exact ag [12,13] (post:=(q,az x (s.wHuf (.slice (bi tb) 2048 2048) hb))::(tb,bn .u16 2048 ht 157)::sm) (I (by rw[hR,ai (by simp[V])]) _ _ ⟨b',rfl⟩ (Kp.refl _))
     rw[ah V] at a8;subst a8;refine go ?_;refine aC z191 rfl hex fun v3 dc=>?_
     refine go ?_;refine ak (s:=5) (vs:=[bf q,.slice (some ⟨b0,z0,none⟩) n r,.int .u32 (o3:Nat),.int .u32 ((o2-1:Nat):Int),.int .u32 (d o3:Nat),.int .u32 (Nat.log2 (d o3):Nat)]) rfl rfl rfl rfl (cC rfl) .here (aZ 6) rfl hex ?_
     have d4:=(aW rfl rfl rfl rfl:bk.obj (⟨6,cQ (aj [.pointer none,.slice none 0 0,.int .u32 0,.int .u32 0,.int .u32 0,.int .u32 0] 191).g 0 (5+1) (ct [bf q,.slice (some ⟨b0,z0,none⟩) n r,.int .u32 (o3:Nat),.int .u32 ((o2-1:Nat):Int),.int .u32 (d o3:Nat),.int .u32 (Nat.log2 (d o3):Nat)]),191,(0,0)⟩:bk)=(nG q (some ⟨b0,z0,none⟩) n r o3 (o2-1) (d o3) (Nat.log2 (d o3))).obj)
     refine go ?_;rw[show o3+1-2=o3-1 from aa];refine ae (n6 S q x (s.wHuf (.slice (bi tb) 2048 2048) hb) _ n r hd U hn B (o3-1) aa aa) ?_
     rintro v m ⟨rfl,a6⟩;by_cases ab:d B=0
     ·rw[ai ab] at a6;obtain⟨e',rfl,⟨b',rfl⟩⟩:=a6;refine go ?_;refine aC z191 rfl hex fun vb bs=>?_
      refine go ?_;refine ak (s:=5) (vs:=[.pointer none,.slice none 0 0,.int .u32 0,.int .u32 0,.int .u32 0,.int .u32 0]) rfl rfl rfl rfl (cC rfl) .here (aZ 6) rfl hex ?_
      refine go ?_;refine af ?_;exact ag [12,13] (post:=(q,az x (s.wHuf (.slice (bi tb) 2048 2048) hb))::(tb,bn .u16 2048 ht 157)::sm) (I (by rw[hR,ai (by simp[ab])]) _ _ ⟨b',rfl⟩ (Kp.refl _))
     rw[ah ab] at a6;subst a6;refine go ?_;refine aC z191 rfl hex fun v4 dt=>?_
     refine go ?_;refine ak (s:=5) (vs:=[bf q,.slice (some ⟨b0,z0,none⟩) n r,.int .u32 (B:Nat),.int .u32 ((o3-1:Nat):Int),.int .u32 (d B:Nat),.int .u32 (Nat.log2 (d B):Nat)]) rfl rfl rfl rfl (cC rfl) .here (aZ 6) rfl hex ?_
     have d5:=(aW rfl rfl rfl rfl:bk.obj (⟨6,cQ (aj [.pointer none,.slice none 0 0,.int .u32 0,.int .u32 0,.int .u32 0,.int .u32 0] 191).g 0 (5+1) (ct [bf q,.slice (some ⟨b0,z0,none⟩) n r,.int .u32 (B:Nat),.int .u32 ((o3-1:Nat):Int),.int .u32 (d B:Nat),.int .u32 (Nat.log2 (d B):Nat)]),191,(0,0)⟩:bk)=(nG q (some ⟨b0,z0,none⟩) n r B (o3-1) (d B) (Nat.log2 (d B))).obj)
     refine go ?_;refine CP (sm:=sm) (fm:=[_,_,_,_,_,_]) rfl rfl rfl rfl z5 (by decide) rfl rfl hl (List.perm_append_comm (l₁:=[_,_,_,_,_,_]) (l₂:=sm)) rfl aa hex rfl ?_
     intro v' al u c0 b6
     have H:R=if dE ht hb d (J-1) (dU d o1) e/\dE ht hb d (o1-1) (dU d o2) e/\dE ht hb d (o2-1) (dU d o3) e/\dE ht hb d (o3-1) (dU d B) (K-e*3) then
       some fun i=>if i<e then lW ht hb d (dU d o1) i
        else if i<e+e then lW ht hb d (dU d o2) (i-e)
        else if i<e+e+e then lW ht hb d (dU d o3) (i-(e+e))
        else lW ht hb d (dU d B) (i-(e+e+e))
      else none:=by rw[hR,ah (by simp[Y,W,V,ab])]
     clear hR;rcases c0 with⟨rfl,rfl,rfl⟩|⟨M,oc,C,rfl,rfl,cb,cn,cs,eb⟩
     ·have cm:e=0:=aa
      subst cm;refine go ?_;refine aC z75 rfl hex fun c3 cN=>?_
      refine go ?_;refine aC z64 rfl hex fun c1 c8=>?_
      refine go ?_;refine aC z64 rfl hex fun c2 cw=>?_
      refine go ?_;refine aH (σ:=Unit) [5,14] (fun _=>[(41,.int .i64 0)]) (fun _=>_) (fun _=>True) (fun _=>0) () (.refl _) trivial ?_
      rintro _ f _;refine go ?_;refine ac rfl (fun h=>absurd h aa) (fun _=>?_)
      refine go ?_;refine af ?_;rw[ai ⟨fun i hi=>absurd hi aa,fun i hi=>absurd hi aa,fun i hi=>absurd hi aa,fun i hi=>absurd hi aa⟩] at H
      refine ag [12,13] (post:=(q,az x (s.wHuf (.slice (bi tb) 2048 2048) hb))::(tb,bn .u16 2048 ht 157)::([]++u)) ?_
      rw[H];exact⟨_,[],u,rfl,.inl ⟨rfl,rfl,rfl⟩,b6,rfl⟩
     ·refine go ?_;refine aC z75 rfl hex fun c3 cN=>?_
      refine go ?_;refine aC z64 rfl hex fun c1 c8=>?_
      refine go ?_;refine aC z64 rfl hex fun c2 cw=>?_
      refine go ?_;obtain⟨e4,b9⟩:∃e4,e4=K-e*3:=⟨_,rfl⟩
      rw[<- b9,show 1*2^hb=2^hb from Nat.one_mul _];rw[<- b9] at H;have ad:∀g,Kp sm ((M,(⟨C.n,g,C.T,(0,0)⟩:bk))::u):=fun g=>b6.trans fun b1 B1 h1=>by
       rcases List.mem_cons.1 h1 with h|h
       ·obtain⟨rfl,rfl⟩:=Prod.mk.inj h;exact⟨_,List.mem_cons_self,rfl,cb.symm⟩
       ·exact⟨B1,List.mem_cons_of_mem _ h,rfl,rfl⟩
      have ax:∀o,o<n->d o≠0->dU d o<=8*n+7:=fun o h1 h2=>by have:=(Nat.log2_lt (k:=8) h2).2 (hd o);unfold dU;omega
      have a9:∀y,fT ht hb d y%256<=hb/\fT ht hb d y/256<256:=fun y=>⟨O.le _ (aY d hb _),O.sym _ (aY d hb _)⟩
      refine bZ (m':=(M,⟨C.n,C.g,C.T,(0,0)⟩)::(v1,nG q (some ⟨b0,z0,none⟩) n r o1 (J-1) (d o1) (Nat.log2 (d o1)))::(v2,nG q (some ⟨b0,z0,none⟩) n r o2 (o1-1) (d o2) (Nat.log2 (d o2)))::(v3,nG q (some ⟨b0,z0,none⟩) n r o3 (o2-1) (d o3) (Nat.log2 (d o3)))::(v4,nG q (some ⟨b0,z0,none⟩) n r B (o3-1) (d B) (Nat.log2 (d B)))::(q,az x (s.wHuf (.slice (bi tb) 2048 2048) hb))::(c1,aj [.int .u32 (hb:Nat)] 64)::(c2,aj [.int .u32 ((2^hb-1:Nat):Int)] 64)::(c3,aj [.slice (bi tb) 2048 2048] 75)::(tb,bn .u16 2048 ht 157)::u) ?_ ?_
      ·exact aR.trans (show aR _ ([(v1,_),(v2,_),(v3,_),(v4,_),(q,_),(c1,_),(c2,_),(c3,_),(tb,_)]++((M,C)::u)) from yo) (aR.trans (.of_perm List.perm_middle) (.cons (by unfold bk.obj;rw[cb];rfl) (.refl _)))
      rw[pg (hb:=hb) (ht:=ht) hd Y,pg (hb:=hb) (ht:=ht) hd W,pg (hb:=hb) (ht:=ht) hd V,pg (hb:=hb) (ht:=ht) hd ab];refine aH (σ:=J9) (vals:=[]) [] (fun t=>[(5,.slice (bi M) K oc),(14,ay e),(28,bf v1),(30,bf v2),(31,bf v3),(32,bf v4),(37,ay e4),(38,bf c3),(39,bf c1),(40,bf c2),(33,ay t.i),(34,.int .i64 ((e+t.i:Nat):Int)),(35,.int .i64 ((e+e+t.i:Nat):Int)),(36,.int .i64 ((e+e+e+min t.i e4:Nat):Int)),(41,ay t.i)])
       (fun t=>(M,⟨C.n,t.g,C.T,(0,0)⟩)::(v1,x8 q (some ⟨b0,z0,none⟩) n r d ht hb (J-1) (dU d o1) t.i t.k1 t.B1)::(v2,x8 q (some ⟨b0,z0,none⟩) n r d ht hb (o1-1) (dU d o2) t.i t.k2 t.B2)::(v3,x8 q (some ⟨b0,z0,none⟩) n r d ht hb (o2-1) (dU d o3) t.i t.k3 t.B3)::(v4,x8 q (some ⟨b0,z0,none⟩) n r d ht hb (o3-1) (dU d B) (min t.i e4) t.k4 t.B4)::(q,az x (s.wHuf (.slice (bi tb) 2048 2048) hb))::(c1,aj [.int .u32 (hb:Nat)] 64)::(c2,aj [.int .u32 ((2^hb-1:Nat):Int)] 64)::(c3,aj [.slice (bi tb) 2048 2048] 75)::(tb,bn .u16 2048 ht 157)::u)
       (fun t=>t.i<=e/\xj d n ht hb (J-1) (dU d o1) t.i t.k1 t.B1/\xj d n ht hb (o1-1) (dU d o2) t.i t.k2 t.B2/\xj d n ht hb (o2-1) (dU d o3) t.i t.k3 t.B3/\xj d n ht hb (o3-1) (dU d B) (min t.i e4) t.k4 t.B4 /\
        up t.g 0 t.i (lW ht hb d (dU d o1))/\up t.g e t.i (lW ht hb d (dU d o2))/\up t.g (e+e) t.i (lW ht hb d (dU d o3))/\up t.g (e+e+e) (min t.i e4) (lW ht hb d (dU d B))) (fun t=>e-t.i)
       ⟨0,C.g,dU d o1%8,d o1,dU d o2%8,d o2,dU d o3%8,d o3,dU d B%8,d B⟩ (hf:=⟨rfl,rfl,rfl,rfl,rfl,rfl,rfl,rfl,rfl,rfl,rfl,un (by simp),un (by simp),un (by simp),rfl,trivial⟩) ?_ ⟨Nat.zero_le _,xj.init hd Y aa aa,xj.init hd W aa aa,xj.init hd V aa aa,?_,up.zero _ _ _,up.zero _ _ _,up.zero _ _ _,?_⟩ ?_
      ·dsimp only;rw[Nat.zero_min];exact .refl _
      ·dsimp only;rw[Nat.zero_min];exact xj.init hd ab aa aa
      ·dsimp only;rw[Nat.zero_min];exact up.zero _ _ _
      rintro⟨i,g,k1,B1,k2,B2,k3,B3,k4,B4⟩ f ⟨hi,r1,r2,r3,r4,a1,a2,a3,a4⟩;dsimp only at hi r1 r2 r3 r4 a1 a2 a3 a4 ⊢;refine go ?_;refine ac rfl (fun d6=>?_) (fun ee=>?_)
      ·refine go ?_;refine wi (ga (l:=[]) (vs:=[]) rfl) (ga (vs:=[bf c1,bf c2,bf c3]) rfl) rfl ?_
       refine go ?_;refine jw (FF S v1 q tb c1 c2 c3 x (s.wHuf (.slice (bi tb) 2048 2048) hb) _ n r hd U hn hb ht O (J-1) (dU d o1) i k1 B1 aa (ax _ aa Y) r1) ?_
       rintro v m (⟨p1,rfl,ch,bt,q1,bd,rfl⟩|⟨p1,⟨e',rfl,⟨b',rfl⟩⟩,bt,rfl⟩)
       rotate_left
       ·refine go ?_;refine af ?_;exact ag [12,13] (post:=(q,az x (s.wHuf (.slice (bi tb) 2048 2048) hb))::(tb,bn .u16 2048 ht 157)::((M,⟨C.n,g,C.T,(0,0)⟩)::u)) (I (by rw[H,ah (fun h=>p1 fun j hj=>h.1 j aa)]) _ _ ⟨b',rfl⟩ (ad g))
       obtain⟨x1,hx1⟩:∃x,x=fT ht hb d (gz ht hb d (dU d o1) i):=⟨_,rfl⟩
       obtain⟨c6,JM⟩:=a9 (gz ht hb d (dU d o1) i)
       rw[<- hx1] at c6 JM ⊢;have ea:=bd.k7
       refine go ?_;refine jw (FF S v2 q tb c1 c2 c3 x (s.wHuf (.slice (bi tb) 2048 2048) hb) _ n r hd U hn hb ht O (o1-1) (dU d o2) i k2 B2 aa (ax _ aa W) r2) ?_
       rintro v m (⟨p2,rfl,cc,bb,q2,bu,rfl⟩|⟨p2,⟨e',rfl,⟨b',rfl⟩⟩,bb,rfl⟩)
       rotate_left
       ·refine go ?_;refine af ?_;exact ag [12,13] (post:=(q,az x (s.wHuf (.slice (bi tb) 2048 2048) hb))::(tb,bn .u16 2048 ht 157)::((M,⟨C.n,g,C.T,(0,0)⟩)::u)) (I (by rw[H,ah (fun h=>p2 fun j hj=>h.2.1 j aa)]) _ _ ⟨b',rfl⟩ (ad g))
       obtain⟨x2,am⟩:∃x,x=fT ht hb d (gz ht hb d (dU d o2) i):=⟨_,rfl⟩
       obtain⟨cx,cu⟩:=a9 (gz ht hb d (dU d o2) i)
       rw[<- am] at cx cu ⊢;have d2:=bu.k7
       refine go ?_;refine jw (FF S v3 q tb c1 c2 c3 x (s.wHuf (.slice (bi tb) 2048 2048) hb) _ n r hd U hn hb ht O (o2-1) (dU d o3) i k3 B3 aa (ax _ aa V) r3) ?_
       rintro v m (⟨p3,rfl,b8,be,q3,bm,rfl⟩|⟨p3,⟨e',rfl,⟨b',rfl⟩⟩,be,rfl⟩)
       rotate_left
       ·refine go ?_;refine af ?_;exact ag [12,13] (post:=(q,az x (s.wHuf (.slice (bi tb) 2048 2048) hb))::(tb,bn .u16 2048 ht 157)::((M,⟨C.n,g,C.T,(0,0)⟩)::u)) (I (by rw[H,ah (fun h=>p3 fun j hj=>h.2.2.1 j aa)]) _ _ ⟨b',rfl⟩ (ad g))
       obtain⟨x3,a0⟩:∃x,x=fT ht hb d (gz ht hb d (dU d o3) i):=⟨_,rfl⟩
       obtain⟨c4,cq⟩:=a9 (gz ht hb d (dU d o3) i)
       rw[<- a0] at c4 cq ⊢;have d7:=bm.k7
       refine go ?_;refine bp (σ:=(Nat->Value)×Nat×Nat) [5,14,28,30,31,32,33,34,35,37,38,39,40,41,44,46,47] (fun t=>[(36,.int .i64 ((e+e+e+min (i+1) e4:Nat):Int))]) (fun t=>(M,⟨C.n,t.1,C.T,(0,0)⟩)::(v1,x8 q (some ⟨b0,z0,none⟩) n r d ht hb (J-1) (dU d o1) i ch bt)::(v2,x8 q (some ⟨b0,z0,none⟩) n r d ht hb (o1-1) (dU d o2) i cc bb)::(v3,x8 q (some ⟨b0,z0,none⟩) n r d ht hb (o2-1) (dU d o3) i b8 be)::(v4,x8 q (some ⟨b0,z0,none⟩) n r d ht hb (o3-1) (dU d B) (min (i+1) e4) t.2.1 t.2.2)::(q,az x (s.wHuf (.slice (bi tb) 2048 2048) hb))::(c1,aj [.int .u32 (hb:Nat)] 64)::(c2,aj [.int .u32 ((2^hb-1:Nat):Int)] 64)::(c3,aj [.slice (bi tb) 2048 2048] 75)::(tb,bn .u16 2048 ht 157)::u)
        (fun t=>xj d n ht hb (o3-1) (dU d B) (min (i+1) e4) t.2.1 t.2.2/\up t.1 0 i (lW ht hb d (dU d o1))/\up t.1 e i (lW ht hb d (dU d o2))/\up t.1 (e+e) i (lW ht hb d (dU d o3))/\up t.1 (e+e+e) (min (i+1) e4) (lW ht hb d (dU d B))) ?_ ?_
       ·refine ac rfl (fun hu=>?_) (fun hu=>?_)
        ·have hm:min i e4=i:=aa
         have bv:min (i+1) e4=i+1:=aa
         rw[hm] at r4 a4 ⊢;rw[bv];refine bZ (m':=[(M,_),(v4,_),(v1,_),(v2,_),(v3,_),(q,_),(c1,_),(c2,_),(c3,_),(tb,_)]++u) (yo) ?_
         refine go ?_;refine jw (FF S v4 q tb c1 c2 c3 x (s.wHuf (.slice (bi tb) 2048 2048) hb) _ n r hd U hn hb ht O (o3-1) (dU d B) i k4 B4 aa (ax _ aa ab) r4) ?_
         rintro v m (⟨p4,rfl,c7,b7,q4,br,rfl⟩|⟨p4,⟨e',rfl,⟨b',rfl⟩⟩,b7,rfl⟩)
         rotate_left
         ·refine go ?_;refine af ?_;exact ag [12,13] (post:=(q,az x (s.wHuf (.slice (bi tb) 2048 2048) hb))::(tb,bn .u16 2048 ht 157)::((M,⟨C.n,g,C.T,(0,0)⟩)::u)) (I (by rw[H,ah (fun h=>p4 fun j hj=>h.2.2.2 j aa)]) _ _ ⟨b',rfl⟩ (ad g))
         obtain⟨x4,aw⟩:∃x,x=fT ht hb d (gz ht hb d (dU d B) i):=⟨_,rfl⟩
         obtain⟨c5,Bg⟩:=a9 (gz ht hb d (dU d B) i)
         rw[<- aw] at c5 Bg ⊢;have d8:=br.k7
         refine go ?_;refine bD rfl rfl rfl rfl (.there (.there (.there (.there (.there (.there .here)))))) (by show _<C.n;omega) rfl hex ?_
         refine go ?_;refine⟨(gK g (0+(e+e+e+i)) (.int .u8 ((x4/2^8:Nat):Int)),c7-x4%256,b7),⟨?_,a1.other aa,a2.other aa,a3.other aa,a4.snoc aa (by rw[aw];rfl)⟩,⟨by simp only[pN];exact⟨un aa,rfl,rfl,rfl,rfl,rfl,rfl,rfl,rfl,rfl,rfl,rfl,rfl,rfl,rfl,rfl,rfl,rfl,trivial⟩,?_⟩⟩
         ·rw[aw];exact br.next O q4 p4
         ·subst aw;exact aR.trans (.cons (pi br O q4) (.refl _)) (show aR _ ([(M,_),(v1,_),(v2,_),(v3,_),(v4,_),(q,_),(c1,_),(c2,_),(c3,_),(tb,_)]++u) from yo)
        ·have hm:min i e4=e4:=aa
         have bv:min (i+1) e4=e4:=aa
         rw[hm] at r4 a4 ⊢;rw[bv];refine go ?_;refine⟨(g,k4,B4),⟨r4,a1,a2,a3,a4⟩,joined ?_⟩
         exact(show aR _ ([(M,_),(v1,_),(v2,_),(v3,_),(v4,_),(q,_),(c1,_),(c2,_),(c3,_),(tb,_)]++u) from yo)
       ·rintro⟨g1,kk,BB⟩ f ⟨s4,t1,t2,t3,t4⟩;dsimp only at s4 t1 t2 t3 t4 ⊢;refine go ?_;refine bD rfl rfl rfl rfl .here (by show _<C.n;omega) rfl hex ?_
        refine go ?_;refine bD rfl rfl rfl rfl .here (by show _<C.n;omega) rfl hex ?_
        refine go ?_;refine bD rfl rfl rfl rfl .here (by show _<C.n;omega) rfl hex ?_
        refine go ?_;refine⟨⟨i+1,gK (gK (gK g1 (0+i) (.int .u8 ((x1/2^8:Nat):Int))) (0+(e+i)) (.int .u8 ((x2/2^8:Nat):Int))) (0+(e+e+i)) (.int .u8 ((x3/2^8:Nat):Int)),ch-x1%256,bt,cc-x2%256,bb,b8-x3%256,be,kk,BB⟩,by dsimp only;omega,
         ⟨by dsimp only;omega,by rw[hx1];exact bd.next O q1 p1,by rw[am];exact bu.next O q2 p2,by rw[a0];exact bm.next O q3 p3,s4,
          ((t1.snoc aa (by rw[hx1];rfl)).other aa).other aa,((t2.other aa).snoc aa (by rw[am];rfl)).other aa,((t3.other aa).other aa).snoc aa (by rw[a0];rfl),((t4.other aa).other aa).other aa⟩,
         ⟨rfl,rfl,rfl,rfl,rfl,rfl,rfl,rfl,rfl,rfl,rfl,?_,?_,rfl,rfl,trivial⟩,?_⟩
        ·exact un (a:=e+i+1) (by dsimp only;omega)
        ·exact un (a:=e+e+i+1) (by dsimp only;omega)
        ·subst hx1 am a0
         exact .cons rfl (.cons (pi bd O q1) (.cons (pi bu O q2) (.cons (pi bm O q3) (.refl _))))
      ·have cr:i=e:=aa
       subst cr;have hm:min i e4=e4:=aa
       rw[hm] at r4 a4;rw[ai ⟨r1.all,r2.all,r3.all,r4.all⟩] at H;refine go ?_;refine af ?_;refine ag [12,13] (post:=(q,az x (s.wHuf (.slice (bi tb) 2048 2048) hb))::(tb,bn .u16 2048 ht 157)::([(M,⟨C.n,g,C.T,(0,0)⟩)]++u)) ?_
       rw[H];refine⟨_,[(M,⟨C.n,g,C.T,(0,0)⟩)],u,rfl,.inr ⟨M,oc,_,rfl,rfl,rfl,cn,cs,fun j hj=>?_⟩,ad g,rfl⟩
       by_cases j1:j<i
       ·have:=a1 j j1
        rw[Nat.zero_add] at this;dsimp only;rw[ai j1];exact this
       ·by_cases j2:j<i+i
        ·have:=a2 (j-i) aa
         rw[show i+(j-i)=j from aa] at this;dsimp only;rw[ah j1,ai j2];exact this
        ·by_cases j3:j<i+i+i
         ·have:=a3 (j-(i+i)) aa
          rw[show i+i+(j-(i+i))=j from aa] at this;dsimp only;rw[ah j1,ah j2,ai j3];exact this
         ·have:=a4 (j-(i+i+i)) aa
          rw[show i+i+i+(j-(i+i+i))=j from aa] at this;dsimp only;rw[ah j1,ah j2,ah j3];exact this
def JO (v:Value) (hb:Nat) (ht:Nat->Nat) (g:ao):Prop :=
 (v = .slice none 0 0/\hb=0/\ht=(fun _=>0)/\g=[])\/∃tb,v = .slice (bi tb) 2048 2048/\(hb≠0->x7 hb ht)/\g=[(tb,bn .u16 2048 ht 157)]
theorem H2 {w':Nat->Nat} {c b:Nat} {old w:Nat->Nat} (h:me w c=some (w',b)):x7 b (dP w' (c+1) b old (c+1)):=by
 obtain⟨y,q,r,u,l,_⟩:=vx h
 refine⟨q,r,fun p g=>?_,fun p g=>?_⟩
 ·obtain⟨i,t,i2,j,k⟩:=gq (old:=old) l g
  have:=j.1
  rw[k];omega
 ·obtain⟨i,t,i2,j,k⟩:=gq (old:=old) l g
  have:=j.1
  rw[k];omega
theorem n9 {n off:Nat} {old g:Nat->Nat} {b q:Nat} (hd:∀i,d i<256) (h:eN d n off old=some (g,b,q)):x7 b g/\off<q/\q<=off+128:=by
 unfold eN at h
 cases hW:kN d n off with
 | none=>rw[hW] at h;cases h
 | some r =>
  obtain⟨w,c,j⟩:=r;rw[hW] at h;dsimp only at h
  cases hT:me w c with
  | none=>rw[hT] at h;cases h
  | some r =>
   obtain⟨w',b'⟩:=r;rw[hT] at h;simp only[Option.map_some,Option.some.injEq,Prod.mk.injEq] at h
   obtain⟨rfl,rfl,rfl⟩:=h;refine⟨H2 hT,?_⟩
   have:=hd off
   unfold kN at hW;split at hW
   ·cases hW
   split at hW
   ·obtain⟨r,_,e⟩:=Option.map_eq_some_iff.1 hW
    cases e;omega
   split at hW
   ·cases hW
   ·cases hW;omega
def yy (S:bN G) (q:Nat) (x:Int) (s:RS) (sm:ao) (R:CE×Option (Nat×Nat×(Nat->Nat))) (r:Value) (m:ao):Prop :=
 ∃h i k j,JO h R.1.hb R.1.ht i/\Bt k j /\
  match R.2 with
  | some (o,K,L)=>∃p g l,r = .tuple #[ay o,p,.nilIface]/\nd p K L g/\Kp sm (g++l)/\m=(q,az x ((s.wHuf h R.1.hb).wFs k))::(i++(j++(g++l)))
  | none=>∃e g,r = .tuple #[.int .i64 0,.slice none 0 0,e]/\jr S e/\Kp sm g/\m=(q,az x ((s.wHuf h R.1.hb).wFs k))::(i++(j++g))
theorem Jq (x:Int) (s:RS) (n:Nat):((az x s).st 13 (ay n)).obj=(az x { s with hb:=n }).obj:=aW rfl rfl rfl rfl
theorem Jr (x:Int) (s:RS) (v:Value):((az x s).st 12 v).obj=(az x { s with ht:=v }).obj:=aW rfl rfl rfl rfl
structure J_ where
 off:Nat
 tss:Nat
 hb:Nat
 ht:Nat->Nat
 tb:Nat
 fs:Value
 fm:ao
set_option maxHeartbeats 4000000 in
theorem Ds (S:bN G) (k:Nat) (x:Int) (s:RS) (da:Option Addr) (n cp:Nat) (hd:∀i,d i<256) (hv:aU G da n cp d) (hn:n<=2^20) (h1:0<n) (e:CE) (h2:2<=d 0%4) (va:Option Addr) (vc:Nat) (D:Nat->Nat) (sm Y fm:ao) (hl:nd (.slice va 0 vc) 0 D sm) (ad:JO s.ht e.hb e.ht Y) (aw:s.hb=e.hb) (am:Bt s.fs fm) :
  av Tryz.prog G 100 #[bf k,.slice da n cp,ay 1,.int .u8 (d 0:Nat),.slice va 0 vc] ((k,az x s)::(Y++(fm++sm))) (yy S k x s sm (eJ e d n)):=by
 refine bE Tryz.func100 fun c h0 hex=>?_
 obtain⟨hdr,F⟩:∃hdr,hdr=d 0:=⟨_,rfl⟩
 have hh:=hd 0
 rw[<- F] at hh h2 ⊢
 obtain⟨b0,z0,rfl⟩:=hv.some h1
 have al:s=(s.wHuf s.ht e.hb).wFs s.fs:=by rw[<- aw]
 have ax:e.hb≠0->x7 e.hb e.ht:=by
  rcases ad with⟨_,q2,_,_⟩|⟨_,_,q2,_⟩
  ·exact fun h=>absurd q2 h
  ·exact q2
 have p:eJ e d n=(e,none)->∀er,jr S er->yy S k x s sm (eJ e d n) (.tuple #[.int .i64 0,.slice none 0 0,er]) ((k,az x s)::(Y++(fm++sm))):=fun h er he=>by
  rw[h];exact⟨s.ht,Y,s.fs,fm,ad,am,er,sm,rfl,he,Kp.refl _,by rw[<- al]⟩
 refine JN ?_
 refine bp (σ:=Nat×Nat×Nat×Nat) [0,1,3,4] (fun t=>[(2,ay t.1),(13,ay t.2.1),(14,ay t.2.2.1),(15,ay t.2.2.2)]) (fun _=>(k,az x s)::(Y++(fm++sm))) (fun t=>di d=(t.1,t.2.1,t.2.2.1)/\t.1<=n/\2<=t.1/\t.1<=5/\t.2.1<=2^20/\t.2.2.1<=2^20/\t.2.2.2=if hdr/4%4=0 then 1 else 4) ?_ ?_
 ·have I:di d=if hdr/4%4=3 then(5,hdr/16+d 1*16+d 2%64*4096,d 2/64+d 3*4+d 4*1024) else if hdr/4%4=2 then(4,hdr/16+d 1*16+d 2%4*4096,d 2/4+d 3*64) else(3,hdr/16+d 1%64*16,d 1/64+d 2*4):=by rw[F];rfl
  have bc:=hd 1
  have a8:=hd 2
  have a9:=hd 3
  have be:=hd 4
  have a4:=hd (1+1)
  have a7:=hd (1+2)
  have a5:=hd (1+3)
  refine go ?_;refine ac rfl (fun f0=>?_) (fun f0=>?_)
  ·refine go ?_;refine ac rfl (fun _=>?_) (fun h=>absurd f0 h)
   refine go ?_;have I:di d=(3,hdr/16+d 1%64*16,d 1/64+d 2*4):=by rw[I];simp only[show ¬hdr/4%4=3 from aa,show ¬hdr/4%4=2 from aa,if_false]
   refine ac rfl (fun hs=>?_) (fun hs=>?_)
   ·refine go ?_;refine ae (eZ S k x s _) ?_
    rintro v m ⟨⟨b',rfl⟩,rfl⟩;refine go ?_;refine af ?_;exact ag [10,11,12] (post:=(k,az x s)::(Y++(fm++sm))) (p (by unfold eJ;rw[I];exact ai (by dsimp only;omega)) _ (.inl ⟨b',rfl⟩))
   ·refine go ?_;refine gb rfl rfl rfl rfl (dL aa) (dL aa) (fQ (j:=4) aa) rfl ?_
    refine go ?_;refine gb rfl rfl rfl rfl (dL aa) (dL aa) (fQ (j:=2) aa) rfl ?_
    refine go ?_;refine ac rfl (fun g0=>?_) (fun g0=>absurd (show((hdr/2^2%4:Nat):Int)=0 from aa) g0)
    refine go ?_;exact⟨(3,hdr/16+d 1%64*16,d 1/64+d 2*4,1),⟨I,by dsimp only;omega,by dsimp only;omega,by dsimp only;omega,by dsimp only;omega,by dsimp only;omega,by dsimp only;rw[ai aa]⟩,joined (.refl _)⟩
  ·refine go ?_;refine ac rfl (fun f1=>?_) (fun f1=>?_)
   ·refine go ?_;have I:di d=(3,hdr/16+d 1%64*16,d 1/64+d 2*4):=by rw[I];simp only[show ¬hdr/4%4=3 from aa,show ¬hdr/4%4=2 from aa,if_false]
    refine ac rfl (fun hs=>?_) (fun hs=>?_)
    ·refine go ?_;refine ae (eZ S k x s _) ?_
     rintro v m ⟨⟨b',rfl⟩,rfl⟩;refine go ?_;refine af ?_;exact ag [10,11,12] (post:=(k,az x s)::(Y++(fm++sm))) (p (by unfold eJ;rw[I];exact ai (by dsimp only;omega)) _ (.inl ⟨b',rfl⟩))
    ·refine go ?_;refine gb rfl rfl rfl rfl (dL aa) (dL aa) (fQ (j:=4) aa) rfl ?_
     refine go ?_;refine gb rfl rfl rfl rfl (dL aa) (dL aa) (fQ (j:=2) aa) rfl ?_
     refine go ?_;refine ac rfl (fun g0=>absurd (show((hdr/2^2%4:Nat):Int)=0 from g0) aa) (fun g0=>?_)
     refine go ?_;exact⟨(3,hdr/16+d 1%64*16,d 1/64+d 2*4,4),⟨I,by dsimp only;omega,by dsimp only;omega,by dsimp only;omega,by dsimp only;omega,by dsimp only;omega,by dsimp only;rw[ah aa]⟩,joined (.refl _)⟩
   ·refine go ?_;refine ac rfl (fun f2=>?_) (fun f2=>?_)
    ·refine go ?_;have I:di d=(4,hdr/16+d 1*16+d 2%4*4096,d 2/4+d 3*64):=by rw[I,show hdr/4%4=2 from aa];rfl
     refine ac rfl (fun hs=>?_) (fun hs=>?_)
     ·refine go ?_;refine ae (eZ S k x s _) ?_
      rintro v m ⟨⟨b',rfl⟩,rfl⟩;refine go ?_;refine af ?_;exact ag [10,11,12] (post:=(k,az x s)::(Y++(fm++sm))) (p (by unfold eJ;rw[I];exact ai (by dsimp only;omega)) _ (.inl ⟨b',rfl⟩))
     ·refine go ?_;refine gb rfl rfl rfl rfl (dL aa) (dL aa) (fQ (j:=4) aa) rfl ?_
      refine go ?_;refine gb rfl rfl rfl rfl (dL aa) (dL aa) (fQ (j:=12) aa) rfl ?_
      refine go ?_;refine gb rfl rfl rfl rfl (dL aa) (dL aa) (fQ (j:=6) aa) rfl ?_
      refine go ?_;exact⟨(4,hdr/16+d 1*16+d 2%4*4096,d 2/4+d 3*64,4),⟨I,by dsimp only;omega,by dsimp only;omega,by dsimp only;omega,by dsimp only;omega,by dsimp only;omega,by dsimp only;rw[ah aa]⟩,joined (.refl _)⟩
    ·refine go ?_;refine ac rfl (fun f3=>?_) (fun f3=>absurd f3 aa)
     refine go ?_;have I:di d=(5,hdr/16+d 1*16+d 2%64*4096,d 2/64+d 3*4+d 4*1024):=by rw[I,show hdr/4%4=3 from aa];rfl
     refine ac rfl (fun hs=>?_) (fun hs=>?_)
     ·refine go ?_;refine ae (eZ S k x s _) ?_
      rintro v m ⟨⟨b',rfl⟩,rfl⟩;refine go ?_;refine af ?_;exact ag [10,11,12] (post:=(k,az x s)::(Y++(fm++sm))) (p (by unfold eJ;rw[I];exact ai (by dsimp only;omega)) _ (.inl ⟨b',rfl⟩))
     ·refine go ?_;refine gb rfl rfl rfl rfl (dL aa) (dL aa) (fQ (j:=4) aa) rfl ?_
      refine go ?_;refine gb rfl rfl rfl rfl (dL aa) (dL aa) (fQ (j:=12) aa) rfl ?_
      refine go ?_;refine gb rfl rfl rfl rfl (dL aa) (dL aa) (fQ (j:=2) aa) rfl ?_
      refine go ?_;refine gb rfl rfl rfl rfl (dL aa) (dL aa) (fQ (j:=10) aa) rfl ?_
      refine go ?_;exact⟨(5,hdr/16+d 1*16+d 2%64*4096,d 2/64+d 3*4+d 4*1024,4),⟨I,by dsimp only;omega,by dsimp only;omega,by dsimp only;omega,by dsimp only;omega,by dsimp only;omega,by dsimp only;rw[ah aa]⟩,joined (.refl _)⟩
 ·rintro⟨o,K,cs,st⟩ f ⟨g1,g2,g3,g4,g5,g6,g7⟩;dsimp only at g1 g2 g3 g4 g5 g6 g7 ⊢;have y:eJ e d n=if 131072<K then(e,none) else if n<o+cs then(e,none) else if hdr%4=2 then
    (match eN d n o e.ht with
    | none=>(e,none)
    | some (g,b,q)=>if cs<q-o then({ e with ht:=g,hb:=b },none) else({ e with ht:=g,hb:=b },(nJ { e with ht:=g,hb:=b } d n q (cs-(q-o)) K).map fun L=>(o+cs,K,L)))
   else if e.hb=0 then(e,none) else(e,(nJ e d n o cs K).map fun L=>(o+cs,K,L)):=by
   unfold eJ;rw[g1,F];dsimp only;rw[ah aa];rfl
  refine go ?_;refine ac rfl (fun a6=>?_) (fun bd=>?_)
  ·rw[ai aa] at y;refine go ?_;refine ae (c_ S k x s _ _) ?_
   rintro v m ⟨⟨b',rfl⟩,rfl⟩;refine go ?_;refine af ?_;exact ag [10,11,12] (post:=(k,az x s)::(Y++(fm++sm))) (p y _ (.inl ⟨b',rfl⟩))
  ·rw[ah aa] at y;refine go ?_;refine aJ 179 rfl (fun a2=>?_) (fun a2=>?_)
   ·rw[ai aa] at y;refine go ?_;refine ae (eZ S k x s _) ?_
    rintro v m ⟨⟨b',rfl⟩,rfl⟩;refine go ?_;refine af ?_;exact ag [10,11,12] (post:=(k,az x s)::(Y++(fm++sm))) (p y _ (.inl ⟨b',rfl⟩))
   ·rw[ah aa] at y;refine go ?_;refine ac rfl (fun h=>absurd h aa) (fun _=>?_)
    refine go ?_;refine bp (σ:=J_) [0,1,4,13,15,16] (fun t=>[(2,ay t.off),(17,ay t.tss)]) (fun t=>(k,az x ((s.wHuf (.slice (bi t.tb) 2048 2048) t.hb).wFs t.fs))::(t.tb,bn .u16 2048 t.ht 157)::(t.fm++sm))
     (fun t=>eJ e d n=({ e with ht:=t.ht,hb:=t.hb },(nJ { e with ht:=t.ht,hb:=t.hb } d n t.off t.tss K).map fun L=>(o+cs,K,L))/\x7 t.hb t.ht/\Bt t.fs t.fm/\2<=t.off/\t.off+t.tss<=n) ?_ ?_
    ·refine ac rfl (fun a0=>?_) (fun bo=>?_)
     ·rw[ai aa] at y;refine dk ?_;refine bp (σ:=Nat) [0,1,2,4,13,15,16,17] (fun _=>[]) (fun tb=>(k,az x ((s.wHuf (.slice (bi tb) 2048 2048) e.hb).wFs s.fs))::(tb,bn .u16 2048 e.ht 157)::(fm++sm)) (fun _=>True) ?_ ?_
      ·rw[al];rcases ad with⟨q1,q2,q3,rfl⟩|⟨tb,q1,q2,rfl⟩
       ·rw[q1];refine go ?_;refine ac rfl (fun _=>?_) (fun h=>absurd h (by decide))
        refine go ?_;refine gm rfl rfl rfl rfl z157 (by decide) (aZ _) (by decide) hex rfl fun tb bm=>?_
        refine go ?_;refine⟨tb,trivial,joined ?_⟩
        refine aR.trans (.of_perm (List.Perm.swap _ _ _)) (.cons (Jr _ _ _) (.cons ?_ (.refl _)))
        rw[q3];exact c9 fun i _=>by
         show[Value.int .u16 0].getD (i%1) undef=_
         rw[Nat.mod_one];rfl
       ·rw[q1];refine go ?_;refine ac rfl (fun h=>absurd h (by decide)) (fun _=>?_)
        refine go ?_;exact⟨tb,trivial,joined (.refl _)⟩
      ·rintro tb f _;refine go ?_;refine ae (yv S k tb x ((s.wHuf (.slice (bi tb) 2048 2048) e.hb).wFs s.fs) _ n cp hd hv hn o e.ht fm aa am) ?_ (hs:=.refl _)
       rintro v m ⟨C,B,O,l⟩
       cases hH:eN d n o e.ht with
       | none =>
        rw[hH] at l y;dsimp only at l y;obtain⟨er,rfl,he,rfl⟩:=l;have M:yy S k x s sm (eJ e d n) (.tuple #[.int .i64 0,.slice none 0 0,er]) ((k,az x ((s.wHuf (.slice (bi tb) 2048 2048) e.hb).wFs C))::([(tb,bn .u16 2048 e.ht 157)]++(B++sm))):=by
         rw[y];exact⟨_,[(tb,bn .u16 2048 e.ht 157)],C,B,.inr ⟨tb,rfl,ax,rfl⟩,O,er,sm,rfl,he,Kp.refl _,rfl⟩
        rcases he with⟨b',rfl⟩|rfl
        ·refine go ?_;exact af (cE [10,11,12] ((k,az x ((s.wHuf (.slice (bi tb) 2048 2048) e.hb).wFs C))::([(tb,bn .u16 2048 e.ht 157)]++(B++sm))) (junk:=[]) M (by rw[List.append_nil];exact .refl _))
        ·unfold bN.ueofV at M ⊢
         refine go ?_;exact af (cE [10,11,12] ((k,az x ((s.wHuf (.slice (bi tb) 2048 2048) e.hb).wFs C))::([(tb,bn .u16 2048 e.ht 157)]++(B++sm))) (junk:=[]) M (by rw[List.append_nil];exact .refl _))
       | some r =>
        obtain⟨g,b,q⟩:=r;rw[hH] at l y;dsimp only at l y;obtain⟨rfl,rfl⟩:=l;obtain⟨ab,bb,ba⟩:=n9 hd hH;have b1:=ab.b1
        have bq:=ab.b11
        refine go ?_;refine bZ (m':=(k,az x ((s.wHuf (.slice (bi tb) 2048 2048) b).wFs C))::(tb,bn .u16 2048 g 157)::(B++sm)) (.cons (Jq _ _ _) (.refl _)) ?_
        refine ac rfl (fun bs=>?_) (fun dE=>?_)
        ·rw[ai aa] at y;refine go ?_;refine ae (c_ S k x _ _ _) ?_
         rintro v m ⟨⟨b',rfl⟩,rfl⟩;refine go ?_;refine af ?_;refine ag [10,11,12] (post:=(k,az x ((s.wHuf (.slice (bi tb) 2048 2048) b).wFs C))::([(tb,bn .u16 2048 g 157)]++(B++sm))) (junk:=[]) ?_ rfl (by rw[List.append_nil];exact .refl _)
         rw[y];exact⟨_,[(tb,bn .u16 2048 g 157)],C,B,.inr ⟨tb,rfl,fun _=>ab,rfl⟩,O,_,sm,rfl,.inl ⟨b',rfl⟩,Kp.refl _,rfl⟩
        ·rw[ah aa] at y;refine go ?_;exact⟨⟨q,cs-(q-o),b,g,tb,C,B⟩,⟨y,ab,O,by dsimp only;omega,by dsimp only;omega⟩,joined (.refl _)⟩
     ·rw[ah aa] at y;rcases ad with⟨q1,q2,q3,rfl⟩|⟨tb,q1,q2,rfl⟩
      ·rw[ai q2] at y;refine go ?_;refine ac rfl (fun _=>?_) (fun h=>absurd (show((s.hb:Nat):Int)=0 by rw[aw,q2];rfl) h)
       refine go ?_;refine ae (c_ S k x s _ _) ?_
       rintro v m ⟨⟨b',rfl⟩,rfl⟩;refine go ?_;refine af ?_;exact ag [10,11,12] (post:=(k,az x s)::([]++(fm++sm))) (p y _ (.inl ⟨b',rfl⟩))
      ·refine go ?_;refine ac rfl (fun hz=>?_) (fun hz=>?_)
       ·rw[ai aa] at y;refine go ?_;refine ae (c_ S k x s _ _) ?_
        rintro v m ⟨⟨b',rfl⟩,rfl⟩;refine go ?_;refine af ?_;exact ag [10,11,12] (post:=(k,az x s)::([(tb,bn .u16 2048 e.ht 157)]++(fm++sm))) (p y _ (.inl ⟨b',rfl⟩))
       ·rw[ah aa] at y;refine go ?_;refine⟨⟨o,cs,e.hb,e.ht,tb,s.fs,fm⟩,⟨y,q2 aa,am,g3,by dsimp only;omega⟩,joined ?_⟩
        dsimp only;rw[<- q1,<- al];exact .refl _
    ·rintro⟨o2,H,hb,ht,tb,fs,fm⟩ f ⟨U,k2,k3,k4,k5⟩;dsimp only at U k2 k3 k4 k5 ⊢;refine go ?_;have br:st=1 ↔ hdr/4%4=0:=by rw[g7];split<;>omega
     refine ac rfl (fun a3=>?_) (fun a1=>?_)
     ·have hS:nJ { e with ht:=ht,hb:=hb } d n o2 H K=xf ht hb d o2 H K:=by unfold nJ;rw[<- F];exact ai aa
      rw[hS] at U;refine go ?_;refine ae (Jp S k tb x (s.wFs fs) _ n cp hd hv hn hb ht k2 o2 H K k4 k5 aa va vc D sm hl) ?_ (hs:=.of_perm (List.Perm.cons _ (List.Perm.cons _ List.perm_append_comm)))
      rintro v m l
      cases hY:xf ht hb d o2 H K with
      | none =>
       rw[hY] at l U;obtain⟨er,u,rfl,⟨b',rfl⟩,J,rfl⟩:=l;refine go ?_;refine af ?_;refine ag [10,11,12] (post:=(k,az x ((s.wHuf (.slice (bi tb) 2048 2048) hb).wFs fs))::([(tb,bn .u16 2048 ht 157)]++(fm++u))) (junk:=[]) ?_ rfl (by rw[List.append_nil];exact .of_perm (List.Perm.cons _ (List.Perm.cons _ List.perm_append_comm)))
       rw[U];exact⟨_,[(tb,bn .u16 2048 ht 157)],fs,fm,.inr ⟨tb,rfl,fun _=>k2,rfl⟩,k3,_,u,rfl,.inl ⟨b',rfl⟩,J,rfl⟩
      | some L =>
       rw[hY] at l U;obtain⟨v',u,W,rfl,V,J,rfl⟩:=l;obtain⟨oa,oc,rfl⟩:=V.form;refine go ?_;refine af ?_;refine ag [10,11,12] (post:=(k,az x ((s.wHuf (.slice (bi tb) 2048 2048) hb).wFs fs))::([(tb,bn .u16 2048 ht 157)]++(fm++(u++W)))) (junk:=[]) ?_ rfl (by rw[List.append_nil];exact .of_perm (List.Perm.cons _ (List.Perm.cons _ List.perm_append_comm)))
       rw[U];exact⟨_,[(tb,bn .u16 2048 ht 157)],fs,fm,.inr ⟨tb,rfl,fun _=>k2,rfl⟩,k3,_,u,W,rfl,V,J,rfl⟩
     ·have hS:nJ { e with ht:=ht,hb:=hb } d n o2 H K=nI ht hb d n o2 H K:=by unfold nJ;rw[<- F];exact ah aa
      rw[hS] at U;refine go ?_;refine ae (H1 S k tb x (s.wFs fs) _ n cp hd hv hn hb ht k2 o2 H K k4 k5 aa va vc D sm hl) ?_ (hs:=.of_perm (List.Perm.cons _ (List.Perm.cons _ List.perm_append_comm)))
      rintro v m l
      cases hY:nI ht hb d n o2 H K with
      | none =>
       rw[hY] at l U;obtain⟨er,u,rfl,⟨b',rfl⟩,J,rfl⟩:=l;refine go ?_;refine af ?_;refine ag [10,11,12] (post:=(k,az x ((s.wHuf (.slice (bi tb) 2048 2048) hb).wFs fs))::([(tb,bn .u16 2048 ht 157)]++(fm++u))) (junk:=[]) ?_ rfl (by rw[List.append_nil];exact .of_perm (List.Perm.cons _ (List.Perm.cons _ List.perm_append_comm)))
       rw[U];exact⟨_,[(tb,bn .u16 2048 ht 157)],fs,fm,.inr ⟨tb,rfl,fun _=>k2,rfl⟩,k3,_,u,rfl,.inl ⟨b',rfl⟩,J,rfl⟩
      | some L =>
       rw[hY] at l U;obtain⟨v',u,W,rfl,V,J,rfl⟩:=l;obtain⟨oa,oc,rfl⟩:=V.form;refine go ?_;refine af ?_;refine ag [10,11,12] (post:=(k,az x ((s.wHuf (.slice (bi tb) 2048 2048) hb).wFs fs))::([(tb,bn .u16 2048 ht 157)]++(fm++(u++W)))) (junk:=[]) ?_ rfl (by rw[List.append_nil];exact .of_perm (List.Perm.cons _ (List.Perm.cons _ List.perm_append_comm)))
       rw[U];exact⟨_,[(tb,bn .u16 2048 ht 157)],fs,fm,.inr ⟨tb,rfl,fun _=>k2,rfl⟩,k3,_,u,W,rfl,V,J,rfl⟩
end Go.Proofs.YtogmacnlpclgkaaGreatDoor
