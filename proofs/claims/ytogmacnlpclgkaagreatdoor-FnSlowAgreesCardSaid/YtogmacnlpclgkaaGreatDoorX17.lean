/- Texts 17. -/
import Derived.Test.YtogmacnlpclgkaaGreatDoorX16
set_option linter.all false
namespace Go.Proofs.YtogmacnlpclgkaaGreatDoor
open Go Go.Eng Go.Pz
attribute [local irreducible] RO J av aO
set_option maxRecDepth 20000
variable {G:ao} {d:Nat->Nat}
def xe (d:Nat->Nat) (N g k q left:Nat) (sh:Nat->Int) (c:Nat):Option ((Nat->Int)×Nat×Nat) :=
 if g<c then none
 else if 8*N<q+2*dC d q (4*N)+16 then none
 else if g<c+3*dC d q (4*N)+aq d (q+2*dC d q (4*N)) 2 then none
 else bI true d N g k (q+2*dC d q (4*N)+2) left sh (c+3*dC d q (4*N)+aq d (q+2*dC d q (4*N)) 2)
structure nH where
 z:Bool
 k:Nat
 q:Nat
 h:Nat
 left:Nat
 sh:Nat->Int
 c:Nat
def nH.res (d:Nat->Nat) (N g:Nat) (t:nH):Option ((Nat->Int)×Nat×Nat):=if t.z then xe d N g t.k t.q t.left t.sh t.c else bI true d N g t.k t.q t.left t.sh t.c
structure J4 (N mx:Nat) (t:nH):Prop where
 h23:t.h<=23
 al:(t.q+t.h)%8=0
 le:t.q+t.h<=8*N
 left:t.left<=512
 c:t.c<=mx+1
 k:mx+2<=t.k+t.c
 zero:∀i,t.c<=i->t.sh i=0
 rng:∀i,-1<=t.sh i/\t.sh i<=512
 zl:t.z=true->t.left≠0
theorem sE (S:bN G) (h g:Nat) (x:Int) (s:RS) (i:Option Addr) (n j q k:Nat) (l:q+k<2^32) (str:ByteArray) :
  av Tryz.prog G 126 #[bf h,.string str] [(h,rH g i n j d q k),(g,az x s)] (fun v m=>dM S .z v/\m=[(h,rH g i n j d q k),(g,az x s)]) :=
 Fy S h g x s i n j ((q+k)/8) (aq d q k) k aa str
theorem zS {log:Nat} (h:1<=log):Nat.log2 (2^log+1)=log:=by
 have g:2^log+1≠0:=Nat.succ_ne_zero _
 have j:2<=2^log:=Nat.pow_le_pow_right (n:=2) (i:=1) aa h
 have l:Nat.log2 (2^log+1)<log+1:=(Nat.log2_lt g).2 (by rw[Nat.pow_succ];omega)
 have k:log<=Nat.log2 (2^log+1):=(Nat.le_log2 g).2 aa
 omega
theorem nH.next {k q h left c1 N p i l:Nat} {sh:Nat->Int} (t:eg d q (left+1)=(i,l)) (hl:left≠0) (y:c1<=p) (u:q+16<=8*N) :
  bI true d N p (k+1) q left sh c1=nH.res d N p ⟨decide ((i:Int)-1=0),k,q+l,h,left-((i:Int)-1).natAbs,gx sh c1 ((i:Int)-1),c1+1⟩:=by
 rw[bI]
 rw[ah hl,ah aa]
 dsimp only
 rw[t]
 have g:¬(8*N<q+(if true=true then 16 else l)):=by rw[ai rfl];omega
 dsimp only
 rw[ah g]
 unfold nH.res
 dsimp only
 by_cases j:(i:Int)-1=0
 ·rw[ai j,j];unfold xe
  rfl
 ·rw[ah j];have r:decide ((i:Int)-1=0)=false:=decide_eq_false j
  rw[r]
  rfl
theorem uj {q:Nat} (h:aq d q 12=4095):∀i,i<6->aq d (q+2*i) 2=3:=by
 have l:=eG d 2 10 q
 have y:=eG d 2 8 (q+2)
 have p:=eG d 2 6 (q+2+2)
 have t:=eG d 2 4 (q+2+2+2)
 have j:=eG d 2 2 (q+2+2+2+2)
 have r:=aY d 2 q
 have l2:=aY d 2 (q+2)
 have z:=aY d 2 (q+2+2)
 have g:=aY d 2 (q+2+2+2)
 have k:=aY d 2 (q+2+2+2+2)
 have u:=aY d 2 (q+2+2+2+2+2)
 simp only[Nat.reduceAdd,Nat.reducePow] at l y p t j r l2 z g k u
 intro i hi
 rcases(by omega:i=0\/i=1\/i=2\/i=3\/i=4\/i=5) with rfl|rfl|rfl|rfl|rfl|rfl
 ·show aq d (q+0) 2=3;rw[Nat.add_zero];omega
 ·show aq d (q+2) 2=3;omega
 ·show aq d (q+2+2) 2=3;omega
 ·show aq d (q+2+2+2) 2=3;omega
 ·show aq d (q+2+2+2+2) 2=3;omega
 ·show aq d (q+2+2+2+2+2) 2=3;omega
theorem jO {q k:Nat} (h:aq d q 2=3) (g:1<=k):dC d q k=1+dC d (q+2) (k-1):=by
 obtain⟨k,rfl⟩:∃k',k=k'+1:=⟨k-1,aa⟩
 rw[dC,ai h,Nat.add_sub_cancel,Nat.add_comm]
theorem Bs {q k:Nat} (h:aq d q 2≠3):dC d q k=0:=by
 cases k with
 | zero=>rfl
 | succ k=>rw[dC,ah h]
theorem Dp {q k:Nat} (h:aq d q 12=4095) (r:6<=k):dC d q k=6+dC d (q+12) (k-6):=by
 have h0:aq d q 2=3:=uj h 0 aa
 have j:=uj h 1 aa
 have g:=uj h 2 aa
 have p:=uj h 3 aa
 have i:=uj h 4 aa
 have l:=uj h 5 aa
 rw[jO h0 aa,jO j aa,jO g aa,jO p aa,jO i aa,jO l aa]
 rw[show k-1-1-1-1-1-1=k-6 from aa,show q+2*5+2=q+12 from aa]
 omega
set_option maxHeartbeats 3000000 in
theorem uk (S:bN G) (j tb:Nat) (x:Int) (s:RS) (u:Option Addr) (n l:Nat) (hd:∀i,d i<256) (hv:aU G u n l d) (hn:n<=2^20) (off mx mb tl tc:Nat) (B:bk) (cw:off<=n) (c8:mx<=255) (d5:mb<=9) (dc:2^mb<=tl) (b8:tl<=tc) (cs:tl*3<=B.n) (ce:B.fr=(0,0)) :
  av Tryz.prog G 110 #[bf j,.slice u n l,ay off,ay mx,ay mb,.slice (bi tb) tl tc] [(j,az x s),(tb,B)] (fun v m =>
   match eI true d n mb mx (8*off) with
   | some (log,sh,_,q)=>v = .tuple #[ay log,.int .i64 (((q+7)/8:Nat):Int),.nilIface]/\∃g,m=[(j,az x s),(tb,⟨B.n,g,B.T,(0,0)⟩)]/\Br g sh (mx+1) log/\∀c,3*2^log<=c->g c=B.g c
   | none=>∃e,v = .tuple #[.int .i64 0,.int .i64 0,e]/\dM S .z e/\m=[(j,az x s),(tb,B)]):=by
 refine bE Tryz.func110 fun c h0 hex=>?_
 unfold eI
 refine go ?_
 refine ae (HW j u n l off aa) ?_
 rintro v m ⟨rfl,rfl⟩
 refine go ?_
 refine aC z226 rfl hex fun F cm=>?_
 refine go ?_
 refine ak (s:=4) (vs:=[bf j,.slice u n l,.int .u32 (off:Nat),.int .u32 0,.int .u32 0]) rfl rfl rfl rfl (cC rfl) .here (aZ 5) rfl hex ?_
 refine cA (m':=[(F,rH j u n l d (8*off) 0),(j,az x s),(tb,B)]) ?hM ?hQ ?hR
 case hM =>
  refine .cons ?_ (.refl _)
  refine Eq.trans (b:=(Bq j u n l off 0 0).obj) dT ?_
  unfold rH;rw[show(8*off+0)/8=off from aa];rfl
 case hQ =>
  intro f h;refine bZ ?_ h
  refine .cons ?_ (.refl _)
  refine Eq.trans (b:=(Bq j u n l off 0 0).obj) dT ?_
  unfold rH;rw[show(8*off+0)/8=off from aa];rfl
 refine go ?_
 refine ae (vv S F j x s u n l hd hv hn (8*off) 0 aa aa aa) ?_
 rintro v m (⟨ab,rfl,k1,a1,a2,a3,a4,rfl⟩|⟨ab,⟨b',rfl⟩,B',rfl⟩)
 ·rw[ah (by simp;omega)]
  refine go ?_;refine ae (G5 (d:=d) F j u n l (8*off) k1 4 aa a2 a3 aa) ?_
  rintro v m ⟨rfl,rfl⟩;obtain⟨L4,a7⟩:∃L4,L4=aq d (8*off) 4:=⟨_,rfl⟩
  have be:=aY d 4 (8*off)
  rw[<- a7] at be ⊢;dsimp only;refine go ?_;refine ac rfl (fun b5=>?_) (fun a8=>?_)
  ·rw[ai aa];refine go ?_;refine ae (sE (d:=d) S F j x s u n l (8*off+4) (k1-4) aa _) ?_
   rintro v m ⟨⟨b',rfl⟩,rfl⟩;refine go ?_;exact af (cE [12,13,14] ([(j,az x s),(tb,B)]) (junk:=[(F,_)]) ⟨_,rfl,⟨b',rfl⟩,rfl⟩ (.of_perm (List.perm_append_comm (l₁:=[_]) (l₂:=[_,_]))))
  ·rw[ah aa];obtain⟨log,br⟩:∃log,log=L4+5:=⟨_,rfl⟩
   rw[<- br];have h5:5<=log:=aa
   have b9:log<=mb:=aa
   have ds:2^log<=2^9:=Nat.pow_le_pow_right aa aa
   have c4:2^log<=2^mb:=Nat.pow_le_pow_right aa b9
   have cd:32<=2^log:=Nat.pow_le_pow_right (n:=2) (i:=5) aa h5
   clear a8 a7 be;refine go ?_;refine aC z230 rfl hex fun V c6=>?_
   refine go ?_;obtain⟨E,hE⟩:∃E,E=bI true d n mx (mx+2) (8*off+4) (2^log) (fun _=>0) 0:=⟨_,rfl⟩
   rw[<- hE];refine ez [(0,bf j),(2,ay off),(3,ay mx),(5,.slice (bi tb) tl tc),(15,bf F),(17,ay log),(18,.int .i64 ((2^log+1:Nat):Int)),(19,.int .i64 ((2^Nat.log2 (2^log+1):Nat):Int)),(20,.int .i64 ((Nat.log2 (2^log+1)+1:Nat):Int)),(21,.int .i64 ((0:Nat):Int)),(22,.bool false),(23,bf V)]
    [(F,rH j u n l d (8*off+4) (k1-4)),(V,kM .i16 256 (fun _=>0) 230),(j,az x s),(tb,B)]
    ⟨rfl,rfl,rfl,rfl,rfl,rfl,by show Value.int .i64 ((1*2^log+1:Nat):Int)=_;rw[Nat.one_mul],by show Value.int .i64 ((1*2^log:Nat):Int)=_;rw[Nat.one_mul,zS aa],by show Value.int .i64 ((log+1:Nat):Int)=_;rw[zS aa],rfl,rfl,rfl,trivial⟩
    (aR.trans (.of_perm (List.Perm.swap _ _ _)) (.skip ci)) fun f=>?_
   refine aH (σ:=nH) [] (fun t=>[(0,bf j),(2,ay off),(3,ay mx),(5,.slice (bi tb) tl tc),(15,bf F),(17,ay log),(18,.int .i64 ((t.left+1:Nat):Int)),(19,.int .i64 ((2^Nat.log2 (t.left+1):Nat):Int)),(20,.int .i64 ((Nat.log2 (t.left+1)+1:Nat):Int)),(21,ay t.c),(22,.bool t.z),(23,bf V)])
    (fun t=>[(F,rH j u n l d t.q t.h),(V,kM .i16 256 t.sh 230),(j,az x s),(tb,B)])
    (fun t=>J4 n mx t/\t.res d n mx=E) (fun t=>2*t.k+(if t.z then 1 else 0)) ⟨false,mx+2,8*off+4,k1-4,2^log,fun _=>0,0⟩ (.refl _)
    ⟨⟨by dsimp only;omega,by dsimp only;omega,by dsimp only;omega,by dsimp only;omega,Nat.zero_le _,by dsimp only;omega,fun _ _=>rfl,fun _=>⟨by show(-1:Int)<=0;decide,by show(0:Int)<=512;decide⟩,fun h=>absurd (show false=true from h) (by decide)⟩,hE.symm⟩ ?_
   rintro⟨z,k,q,h,left,sh,c1⟩ f ⟨hI,C⟩;obtain⟨i1,i2,i3,i4,i5,i6,i7,i8,i9⟩:=hI;dsimp only at i1 i2 i3 i4 i5 i6 i7 i8 i9 ⊢;refine go ?_;refine aJ 55 rfl (fun c7=>?_) (fun dt=>?_)
   ·refine go ?_;refine ac rfl (fun cb=>?_) (fun cb=>?_)
    ·have bm:c1<=mx:=aa
     refine go ?_;refine ae (vv S F j x s u n l hd hv hn q h i1 i2 i3) ?_
     rintro v m (⟨ab,rfl,M,b1,b2,b3,b4,rfl⟩|⟨ab,⟨b',rfl⟩,B',rfl⟩)
     ·refine go ?_;refine ei rfl (fun hz=>?_) (fun hz=>?_)
      ·have aw:z=true:=hz
       subst aw;refine go ?_;refine aH (σ:=Nat×Nat) [0,2,3,5,15,17,18,19,20,21,23] (fun t=>[(25,.int .i64 ((c1+3*t.1:Nat):Int))]) (fun t=>[(F,rH j u n l d (q+2*t.1) t.2),(j,az x s),(V,kM .i16 256 sh 230),(tb,B)])
        (fun t=>dC d q (4*n)=t.1+dC d (q+2*t.1) (4*n-t.1)/\16<=t.2/\t.2<=23/\(q+2*t.1+t.2)%8=0/\q+2*t.1+t.2<=8*n) (fun t=>4*n-t.1) (0,M) (.refl _) ⟨by dsimp only;rw[Nat.mul_zero,Nat.add_zero,Nat.sub_zero,Nat.zero_add],b1,b2,b3,b4⟩ ?_
       rintro⟨w,y⟩ f ⟨Y,e2,e3,e4,e5⟩;dsimp only at Y e2 e3 e4 e5 ⊢;have bc:=aY d y (q+2*w)
       have al:2^y<=2^23:=Nat.pow_le_pow_right aa e3
       refine go ?_;refine ac rfl (fun bq=>?_) (fun a5=>?_)
       ·have U:dC d (q+2*w) (4*n-w)=6+dC d (q+2*w+12) (4*n-w-6):=Dp (by
         rw[<- fw d (q+2*w) (by omega:12<=y)]
         show _%4096=4095
         omega) aa
        obtain⟨zz,cq⟩:∃zz,zz=dC d (q+2*w+12) (4*n-w-6):=⟨_,rfl⟩
        clear bq;clear cq;refine go ?_;have H:(((rH j u n l d (q+2*w) y).st 3 (.int .u32 (aq d (q+2*w) y/2^12:Nat))).st 4 (.int .u32 (y-12:Nat))  |> bk.obj)=(rH j u n l d (q+2*(w+6)) (y-12)).obj:=by
         refine(xd j u n l _ _ _ _ _).trans ?_
         rw[fx d _ (by omega:12<=y),show(q+2*w+y)/8=(q+2*(w+6)+(y-12))/8 from aa,show q+2*w+12=q+2*(w+6) from aa]
         rfl
        refine cA (.cons H (.refl _)) (fun _ h=>bZ (.cons H (.refl _)) h) ?_
        refine ae (vv S F j x s u n l hd hv hn (q+2*(w+6)) (y-12) aa aa aa) ?_
        rintro v m (⟨W,rfl,k4,d1,d2,d3,d4,rfl⟩|⟨W,⟨b',rfl⟩,B',rfl⟩)
        ·refine go ?_;refine⟨(w+6,k4),by dsimp only;omega,⟨by dsimp only;rw[Y,U,show 4*n-w-6=4*n-(w+6) from aa,show q+2*w+12=q+2*(w+6) from aa];omega,d1,d2,d3,d4⟩,⟨by show Value.int .i64 _=Value.int .i64 _;congr 1,rfl,rfl,rfl,rfl,rfl,rfl,rfl,rfl,rfl,rfl,rfl,trivial⟩,.refl _⟩
        ·have K:E=none:=by
          rw[<- C];unfold nH.res xe
          dsimp only;rw[ai rfl,ah aa,ai aa]
         subst K;refine go ?_;refine af ?_;exact ag [12,13,14] (post:=[(j,az x s),(tb,B)]) ⟨_,rfl,⟨b',rfl⟩,rfl⟩
       ·refine go ?_;clear a5;refine aH (σ:=Nat×Nat) [0,2,3,5,15,17,18,19,20,21,23] (fun t=>[(25,.int .i64 ((c1+3*t.1:Nat):Int))]) (fun t=>[(F,rH j u n l d (q+2*t.1) t.2),(j,az x s),(V,kM .i16 256 sh 230),(tb,B)])
         (fun t=>dC d q (4*n)=t.1+dC d (q+2*t.1) (4*n-t.1)/\16<=t.2/\t.2<=23/\(q+2*t.1+t.2)%8=0/\q+2*t.1+t.2<=8*n) (fun t=>4*n-t.1) (w,y) (.refl _) ⟨Y,e2,e3,e4,e5⟩ ?_
        clear Y e2 e3 e4 e5 bc al y w;rintro⟨w,y⟩ f ⟨Y,e2,e3,e4,e5⟩;dsimp only at Y e2 e3 e4 e5 ⊢;have bc:=aY d y (q+2*w)
        have al:2^y<=2^23:=Nat.pow_le_pow_right aa e3
        refine go ?_;refine ac rfl (fun a9=>?_) (fun a0=>?_)
        ·have U:dC d (q+2*w) (4*n-w)=1+dC d (q+2*w+2) (4*n-w-1):=jO (by
          rw[<- fw d (q+2*w) (by omega:2<=y)]
          show _%4=3
          omega) aa
         clear a9;refine go ?_;have H:(((rH j u n l d (q+2*w) y).st 3 (.int .u32 (aq d (q+2*w) y/2^2:Nat))).st 4 (.int .u32 (y-2:Nat))  |> bk.obj)=(rH j u n l d (q+2*(w+1)) (y-2)).obj:=by
          refine(xd j u n l _ _ _ _ _).trans ?_
          rw[fx d _ (by omega:2<=y),show(q+2*w+y)/8=(q+2*(w+1)+(y-2))/8 from aa,show q+2*w+2=q+2*(w+1) from aa]
          rfl
         refine cA (.cons H (.refl _)) (fun _ h=>bZ (.cons H (.refl _)) h) ?_
         refine ae (vv S F j x s u n l hd hv hn (q+2*(w+1)) (y-2) aa aa aa) ?_
         rintro v m (⟨W,rfl,k4,d1,d2,d3,d4,rfl⟩|⟨W,⟨b',rfl⟩,B',rfl⟩)
         ·refine go ?_;refine⟨(w+1,k4),by dsimp only;omega,⟨by dsimp only;rw[Y,U,show 4*n-w-1=4*n-(w+1) from aa,show q+2*w+2=q+2*(w+1) from aa];omega,d1,d2,d3,d4⟩,⟨by show Value.int .i64 _=Value.int .i64 _;congr 1,rfl,rfl,rfl,rfl,rfl,rfl,rfl,rfl,rfl,rfl,rfl,trivial⟩,.refl _⟩
         ·have K:E=none:=by
           rw[<- C];unfold nH.res xe
           dsimp only;rw[ai rfl,ah aa,ai aa]
          subst K;refine go ?_;refine af ?_;exact ag [12,13,14] (post:=[(j,az x s),(tb,B)]) ⟨_,rfl,⟨b',rfl⟩,rfl⟩
        ·have U:dC d q (4*n)=w:=by
          rw[Y,Bs (by
           rw[<- fw d (q+2*w) (by omega:2<=y)]
           show _%4≠3
           omega),Nat.add_zero]
         clear Y a0;refine go ?_;refine ae (G5 (d:=d) F j u n l (q+2*w) y 2 aa e3 e4 aa) ?_
         rintro v m ⟨rfl,rfl⟩;have c5:=aY d 2 (q+2*w)
         obtain⟨c2,bs⟩:∃c2,c2=c1+3*w+aq d (q+2*w) 2:=⟨_,rfl⟩
         refine go ?_;rw[<- bs];refine ac rfl (fun b5=>?_) (fun a8=>?_)
         ·have K:E=none:=by
           rw[<- C];unfold nH.res xe
           dsimp only;rw[ai rfl,U,ah aa,ah aa,ai aa]
          subst K;refine go ?_;refine cA (.refl _) (fun _ h=>bZ (.refl _) h) ?_
          refine ae (sE (d:=d) S F j x s u n l (q+2*w+2) (y-2) aa _) ?_
          rintro v m ⟨⟨b',rfl⟩,rfl⟩;refine go ?_;refine af ?_;exact ag [12,13,14] (post:=[(j,az x s),(tb,B)]) ⟨_,rfl,⟨b',rfl⟩,rfl⟩
         ·refine go ?_;refine aH (σ:=Nat) [0,2,3,5,15,17,18,19,20,23,25] (fun c=>[(21,ay c)]) (fun _=>[(F,rH j u n l d (q+2*w+2) (y-2)),(j,az x s),(V,kM .i16 256 sh 230),(tb,B)])
           (fun c=>c1<=c/\c<=c2) (fun c=>c2-c) c1 (.refl _) ⟨aZ _,aa⟩ ?_
          rintro J f ⟨g1,g2⟩;refine go ?_;refine ac rfl (fun bt=>?_) (fun d0=>?_)
          ·refine go ?_;refine bD (v:=.int .i16 0) rfl rfl rfl rfl (.there (.there .here)) (by show _<256;omega) rfl hex ?_
           refine go ?_;refine⟨J+1,aa,⟨aa,aa⟩,cF,.skip (.skip (.cons ?_ (.refl _)))⟩
           refine c9 fun i _=>?_
           show gK (fun i=>Value.int .i16 (sh i)) (0+J) (.int .i16 0) i=Value.int .i16 (sh i)
           rw[Nat.zero_add];by_cases he:i=J
           ·rw[he,cG,i7 J g1]
           ·rw[aT _ _ _ _ he]
          ·have lW:J=c2:=aa
           subst lW;refine go ?_;refine⟨⟨false,k,q+2*w+2,y-2,left,sh,J⟩,by dsimp only;rw[ai rfl,ah (by decide)];omega,⟨⟨by dsimp only;omega,by dsimp only;omega,by dsimp only;omega,i4,by dsimp only;omega,by dsimp only;omega,fun i hi=>i7 i (by have hi:J<=i:=hi;omega),i8,fun h=>absurd (show false=true from h) (by decide)⟩,?_⟩,cF,.skip (.swap _ _ _)⟩
           rw[<- C];unfold nH.res xe
           dsimp only;rw[ah (by decide),ai rfl,U,ah aa,ah aa,ah aa,<- bs]
      ·have aw:z=false:=hz
       subst aw;have b6:left≠0:=aa
       have ch:=Nat.log2_self_le (n:=left+1) aa
       have bu:=Nat.lt_log2_self (n:=left+1)
       have ax:=n4 (a:=left+1) aa aa
       have bo:=sB (a:=left+1) aa
       obtain⟨v1,v2,v3⟩:=o8 d q (most:=left+1) aa
       obtain⟨b,hb⟩:∃b,b=Nat.log2 (left+1):=⟨_,rfl⟩
       rw[<- hb] at ch bu ax bo v2 v3;have cx:2^b<=2^9:=Nat.pow_le_pow_right aa ax
       have cS:left+1<2*2^b:=by rw[Nat.pow_succ] at bu;omega
       have d6:=aY d M q
       have dl:2^M<=2^23:=Nat.pow_le_pow_right aa b2
       rw[<- hb];refine go ?_;rw[Nat.and_two_pow_sub_one_eq_mod,fw d q (by omega:b<=M)]
       have cm:=aY d b q
       obtain⟨⟨r1,r2⟩,hr⟩:∃r:Nat×Nat,eg d q (left+1)=r:=⟨_,rfl⟩
       rw[hr] at v1 v2 v3;dsimp only at v1 v2 v3;have I:=hr
       unfold eg at I;rw[<- hb] at I;dsimp only at I;rw[Nat.add_sub_cancel,Nat.pow_succ,Nat.mul_comm (2^b) 2] at I;refine go ?_;refine r_ [0,2,3,5,15,17,18,19,20,21,23] [(29,ay r1)] [(F,rH j u n l d (q+r2) (M-r2)),(j,az x s),(V,kM .i16 256 sh 230),(tb,B)] ?h1 ?h2
       case h1 =>
        refine ac rfl (fun am=>?_) (fun cr=>?_)
        ·rw[ai aa] at I;obtain⟨rfl,rfl⟩:=Prod.mk.inj I;refine go ?_;rw[Nat.and_two_pow_sub_one_eq_mod,fw d q (by omega:b<=M)]
         refine go ?_;refine joined (.cons ?_ (.refl _))
         refine(xd j u n l _ _ _ _ _).trans ?_
         rw[Nat.add_sub_cancel];rw[fx d q (by omega:b<=M),show(q+M)/8=(q+b+(M-b))/8 from aa]
         rfl
        ·rw[ah aa] at I;obtain⟨ad,rfl⟩:=Prod.mk.inj I;have ba:=aY d (b+1) q
         rw[Nat.pow_succ] at ba;refine go ?_;rw[show 2*2^b-1=2^(b+1)-1 by rw[Nat.pow_succ];omega,Nat.and_two_pow_sub_one_eq_mod,fw d q (by omega:b+1<=M)]
         refine go ?_;refine rC [0,2,3,5,15,17,18,19,20,21,23] [(29,ay r1)] ?_ ?_
         ·refine ac rfl (fun cN=>?_) (fun c3=>?_)
          ·rw[ai aa] at ad;refine go ?_;refine joined (.refl _) ⟨by show Value.int .i64 _ = .int .i64 _;rw[<- ad,Nat.pow_succ,Nat.mul_comm (2^b) 2],rfl,rfl,rfl,rfl,rfl,rfl,rfl,rfl,rfl,rfl,rfl,trivial⟩
          ·rw[ah aa] at ad;refine go ?_;refine joined (.refl _) ⟨by show Value.int .i64 _ = .int .i64 _;rw[<- ad],rfl,rfl,rfl,rfl,rfl,rfl,rfl,rfl,rfl,rfl,rfl,trivial⟩
         ·intro f;refine go ?_;refine joined (.cons ?_ (.refl _))
          refine(xd j u n l _ _ _ _ _).trans ?_
          rw[fx d q (by omega:b+1<=M),show(q+M)/8=(q+(b+1)+(M-(b+1)))/8 from aa]
          rfl
       case h2 =>
        intro f;clear I;obtain⟨p,hp⟩:∃p:Int,p=(r1:Int)-1:=⟨_,rfl⟩
        refine go ?_;rw[<- hp];obtain⟨l2,bt⟩:∃l2,l2=left-p.natAbs:=⟨_,rfl⟩
        refine rC [0,2,3,5,15,17,19,20,21,23,29] [(18,.int .i64 ((l2+1:Nat):Int))] ?_ ?_
        ·refine ac rfl (fun d7=>?_) (fun cd=>?_)
         ·refine go ?_;refine joined (.refl _) ⟨by show Value.int .i64 _ = .int .i64 _;congr 1;omega,rfl,rfl,rfl,rfl,rfl,rfl,rfl,rfl,rfl,rfl,rfl,trivial⟩
         ·refine go ?_;refine joined (.refl _) ⟨by show Value.int .i64 _ = .int .i64 _;congr 1;omega,rfl,rfl,rfl,rfl,rfl,rfl,rfl,rfl,rfl,rfl,rfl,trivial⟩
        ·intro f;refine go ?_;refine ac rfl (fun bv=>absurd bv aa) (fun _=>?_)
         refine go ?_;refine mR rfl rfl rfl (IntWalk.i16_in _ aa) rfl ?_
         refine go ?_;refine bD (v:=.int .i16 p) rfl rfl rfl rfl (.there (.there .here)) (by show _<256;omega) rfl hex ?_
         refine go ?_;have H:(kM .i16 256 sh 230 |>.st (0+c1) (.int .i16 p) |> bk.obj)=(kM .i16 256 (gx sh c1 p) 230).obj:=by
          refine c9 fun i _=>?_
          show gK (fun i=>Value.int .i16 (sh i)) (0+c1) (.int .i16 p) i=Value.int .i16 (gx sh c1 p i)
          rw[Nat.zero_add];unfold gx;by_cases he:i=c1
          ·rw[he,cG,ai rfl]
          ·rw[aT _ _ _ _ he,ah he]
         refine bZ (.skip (.skip (.cons H (.refl _)))) ?_
         refine aH (σ:=Nat) [0,2,3,5,15,17,18,21,22,23] (fun b=>[(19,.int .i64 ((2^b:Nat):Int)),(20,.int .i64 ((b+1:Nat):Int))]) (fun _=>[(F,rH j u n l d (q+r2) (M-r2)),(j,az x s),(V,kM .i16 256 (gx sh c1 p) 230),(tb,B)])
          (fun b'=>b'<=9/\l2+1<2*2^b') (fun b=>b) b (.refl _) ⟨ax,aa⟩ ?_
         rintro b' f ⟨g1,g2⟩;have b7:2^b'<=2^9:=Nat.pow_le_pow_right aa g1
         refine go ?_;refine ac rfl (fun am=>?_) (fun cr=>?_)
         ·have dm:b'≠0:=by
           intro h;subst h;simp only[Nat.pow_zero] at am
           omega
          obtain⟨b',rfl⟩:∃b1,b'=b1+1:=⟨b'-1,aa⟩
          rw[Nat.pow_succ] at am;refine go ?_;refine⟨b',aa,⟨aa,aa⟩,⟨by show Value.int .i64 _ = .int .i64 _;rw[Nat.pow_succ,Nat.pow_one,Nat.mul_div_cancel _ (by decide)],by show Value.int .i64 _ = .int .i64 _;rw[Nat.add_sub_cancel],rfl,rfl,rfl,rfl,rfl,rfl,rfl,rfl,rfl,rfl,trivial⟩,.refl _⟩
         ·have ca:b'=Nat.log2 (l2+1):=by
           have a1:Nat.log2 (l2+1)<b'+1:=(Nat.log2_lt aa).2 (by rw[Nat.pow_succ];omega)
           have a2:b'<=Nat.log2 (l2+1):=(Nat.le_log2 aa).2 aa
           omega
          subst ca;obtain⟨k,rfl⟩:∃k',k=k'+1:=⟨k-1,aa⟩
          have O:=nH.next (d:=d) (k:=k) (h:=M-r2) (sh:=sh) hr b6 bm ab
          refine go ?_;refine⟨⟨decide (p=0),k,q+r2,M-r2,l2,gx sh c1 p,c1+1⟩,by dsimp only;rw[ah (by decide:¬(false=true))];split<;>omega,⟨⟨by dsimp only;omega,by dsimp only;omega,by dsimp only;omega,by dsimp only;omega,by dsimp only;omega,by dsimp only;omega,fun i hi=>?_,fun i=>?_,fun h=>?_⟩,?_⟩,cF,.skip (.swap _ _ _)⟩
          ·have hi:c1+1<=i:=hi
           show gx sh c1 p i=0
           unfold gx;rw[ah aa];exact i7 i aa
          ·show -1<=gx sh c1 p i/\gx sh c1 p i<=512
           unfold gx;split
           ·exact⟨aa,aa⟩
           ·exact i8 i
          ·have h:decide (p=0)=true:=h
           have h:=of_decide_eq_true h
           show l2≠0
           omega
          ·rw[<- C,bt,hp];unfold nH.res at O ⊢
           dsimp only at O ⊢;rw[<- O]
           rfl
     ·have K:E=none:=by
       rw[<- C];unfold nH.res
       dsimp only
       cases z with
       | true=>rw[ai rfl];unfold xe;rw[ah aa,ai aa]
       | false =>
        rw[ah (by decide)]
        obtain⟨k,rfl⟩:∃k',k=k'+1:=⟨k-1,aa⟩
        unfold bI;rw[ah aa,ah aa];dsimp only;rw[ai (by simp;omega)]
      subst K;refine go ?_;refine af ?_;exact ag [12,13,14] (post:=[(j,az x s),(tb,B)]) ⟨_,rfl,⟨b',rfl⟩,rfl⟩
    ·have K:E=none:=by
      rw[<- C];unfold nH.res
      dsimp only
      cases z with
      | true=>rw[ai rfl];unfold xe;rw[ai aa]
      | false =>
       rw[ah (by decide)]
       obtain⟨k,rfl⟩:∃k',k=k'+1:=⟨k-1,aa⟩
       unfold bI;rw[ah aa,ai aa]
     subst K;refine go ?_;refine ac rfl (fun a6=>?_) (fun cc=>absurd cc aa)
     refine go ?_;refine ae (sE (d:=d) S F j x s u n l q h aa _) ?_
     rintro v m ⟨⟨b',rfl⟩,rfl⟩;refine go ?_;refine af ?_;exact ag [12,13,14] (post:=[(j,az x s),(tb,B)]) ⟨_,rfl,⟨b',rfl⟩,rfl⟩
   ·have hz:z=false:=by cases z with
     | true=>exact absurd (i9 rfl) aa
     | false=>rfl
    subst hz;have cl:left=0:=aa
    subst cl;have bd:E=some (sh,c1,q):=by
     rw[<- C];unfold nH.res
     dsimp only;rw[ah (by decide)]
     obtain⟨k,rfl⟩:∃k',k=k'+1:=⟨k-1,aa⟩
     unfold bI;rw[ai rfl]
    obtain⟨f1,f2,f3,f4,_,_⟩:=jL (hE.symm.trans bd) aa (Nat.zero_le _) (fun _ _=>rfl) (fun _=>by show(-1:Int)<=0;decide)
    subst bd;have cn:fe sh (mx+1) (2^log):=fe.zeros (c:=c1) ⟨dO.of_log h5 aa,fun s _=>f4 s,by rw[f1];show 0+0+2^log=_;omega⟩ f2 f3
    refine go ?_;refine ac rfl (fun a6=>absurd a6 (by simp)) (fun _=>?_)
    refine go ?_;refine aH (σ:=Nat) [] (fun J=>[(0,bf j),(2,ay off),(3,ay mx),(5,.slice (bi tb) tl tc),(15,bf F),(17,ay log),(21,ay J),(23,bf V)])
     (fun _=>[(F,rH j u n l d q h),(V,kM .i16 256 sh 230),(j,az x s),(tb,B)]) (fun J=>c1<=J/\J<=mx+1) (fun J=>mx+1-J) c1 (.refl _) ⟨aZ _,i5⟩ ?_
    rintro J f ⟨g1,g2⟩;refine go ?_;refine ac rfl (fun cu=>?_) (fun c0=>?_)
    ·refine go ?_;refine bD (v:=.int .i16 0) rfl rfl rfl rfl (.there .here) (by show _<256;omega) rfl hex ?_
     refine go ?_;refine⟨J+1,aa,⟨aa,aa⟩,cF,.skip (.cons ?_ (.refl _))⟩
     refine c9 fun i _=>?_
     show gK (fun i=>Value.int .i16 (sh i)) (0+J) (.int .i16 0) i=Value.int .i16 (sh i)
     rw[Nat.zero_add];by_cases he:i=J
     ·rw[he,cG,i7 J g1]
     ·rw[aT _ _ _ _ he]
    ·refine go ?_;refine ae (Dl (d:=d) F j u n l q h i1 i2 aa) ?_
     rintro v m ⟨B',k',rfl⟩;refine go ?_;refine ae (yu (G:=G) j V tb (off:Nat) sh (mx+1) log tl tc B cn aa h5 aa aa b8 cs ce) ?_
     rintro v m ⟨rfl,g,rfl,q1,q2⟩;refine go ?_;refine af ?_;exact ag [12,13,14] (post:=[(j,az x s),(tb,⟨B.n,g,B.T,(0,0)⟩)]) ⟨rfl,g,rfl,q1,q2⟩
 ·rw[ai (by simp;omega)]
  refine go ?_;exact af (cE [12,13,14] ([(j,az x s),(tb,B)]) (junk:=[(F,B')]) ⟨_,rfl,⟨b',rfl⟩,rfl⟩ (.of_perm (List.perm_append_comm (l₁:=[_]) (l₂:=[_,_]))))
end Go.Proofs.YtogmacnlpclgkaaGreatDoor
namespace Go.Proofs.YtogmacnlpclgkaaGreatDoor
open Go Go.Eng Go.Pz
def dh (g bt h:Nat->Nat) (d:Nat->Nat) (start:Nat):Nat->Nat->Nat->Nat->(Nat->Nat)->Nat->Option ((Nat->Nat)×Nat)
 | 0,_,_,_,_,_=>none
 | k+1,a,s1,s2,w,c =>
  if ¬jM start a (bt s1) then(if 254<=c then none else some (cV (cV w c (g s1)) (c+1) (g s2),c+2))
  else if 255<=c then none
  else dh g bt h d start k (a-bt s1) s2 (h s1+dQ d a (bt s1)) (cV w c (g s1)) (c+1)
def gI (d:Nat->Nat) (n off hdr:Nat):Option ((Nat->Nat)×Nat) :=
 match eI true d n 6 255 (8*off) with
 | none=>none
 | some (log,sh,_,q) =>
  if n<off+hdr then none
  else if d (off+hdr-1)=0 then none
  else
   let a:=8*(off+hdr-1)+Nat.log2 (d (off+hdr-1))
   let st:=(q+7)/8
   if ¬jM st a log then none
   else if ¬jM st (a-log) log then none
   else dh (aI sh 256 (2^log)) (aG sh 256 log) (bO sh 256 log) d st 256 (a-log-log) (dQ d a log) (dQ d (a-log) log) (fun _=>0) 0
def lI (d:Nat->Nat) (o:Nat) (c:Nat) (i:Nat):Nat:=if i<2*((c+1)/2) then(if i%2=0 then d (o+i/2)/16 else d (o+i/2)%16) else 0
def kN (d:Nat->Nat) (n off:Nat):Option ((Nat->Nat)×Nat×Nat) :=
 if n<=off then none
 else if d off<128 then(gI d n (off+1) (d off)).map fun r=>(r.1,r.2,off+1+d off)
 else if n<=off+1+(d off-127+1)/2 then none
 else some (lI d (off+1) (d off-127),d off-127,off+1+(d off-127+1)/2)
def bW (w:Nat->Nat):Nat->Nat->Nat
 | 0,_=>0
 | n+1,v=>bW w n v+if w n=v then 1 else 0
def aM (w:Nat->Nat):Nat->Nat->Nat
 | 0,_=>0
 | n+1,k=>aM w n k+if w n=0\/k<w n then 0 else 2^(w n-1)
theorem iF (w:Nat->Nat):∀n,aM w n 0=0
 | 0=>rfl
 | n+1=>by rw[aM,iF w n,ai aa]
theorem iG (w:Nat->Nat) (k:Nat):∀n,aM w n (k+1)=aM w n k+bW w n (k+1)*2^k
 | 0=>by simp[aM,bW]
 | n+1=>by
  rw[aM,aM,bW,iG w k n,Nat.add_mul];by_cases h0:w n=0
  ·rw[ai (.inl h0),ai (.inl h0),ah aa];omega
  ·by_cases g:w n=k+1
   ·rw[ah aa,ai aa,ai g,g,Nat.add_sub_cancel];omega
   ·by_cases h:k<w n
    ·rw[ai aa,ai aa,ah g];omega
    ·rw[ah aa,ah aa,ah g];omega
theorem jx (w:Nat->Nat) {k k':Nat}:∀n,(∀i,i<n->w i<=k/\w i<=k')->aM w n k=aM w n k'
 | 0,_=>rfl
 | n+1,h=>by
  rw[aM,aM,jx w n fun i hi=>h i aa]
  have:=h n aa
  by_cases h0:w n=0
  ·rw[ai (.inl h0),ai (.inl h0)]
  ·rw[ah aa,ah aa]
theorem gg (w:Nat->Nat) {k k':Nat} (h:k<=k'):∀n,aM w n k<=aM w n k'
 | 0=>aZ _
 | n+1=>by
  rw[aM,aM];have:=gg w h n
  generalize 2^(w n-1)=z;split<;>split<;>omega
theorem mE (w:Nat->Nat) {k i:Nat} (h0:w i≠0) (g:w i<=k):∀n,i<n->2^(w i-1)<=aM w n k
 | 0,h=>absurd h (Nat.not_lt_zero _)
 | n+1,h=>by
  rw[aM];by_cases j:i=n
  ·subst j;rw[ah aa];omega
  ·have:=mE w h0 g n aa;omega
theorem gT {w w':Nat->Nat} {k:Nat}:∀n,(∀i,i<n->w i=w' i)->aM w n k=aM w' n k
 | 0,_=>rfl
 | n+1,h=>by rw[aM,aM,gT n fun i hi=>h i aa,h n aa]
theorem n7 {w w':Nat->Nat} {v:Nat}:∀n,(∀i,i<n->w i=w' i)->bW w n v=bW w' n v
 | 0,_=>rfl
 | n+1,h=>by rw[bW,bW,n7 n fun i hi=>h i aa,h n aa]
theorem rI (w:Nat->Nat) (v:Nat):∀n,bW w n v<=n
 | 0=>aZ _
 | n+1=>by rw[bW];have:=rI w v n;split<;>omega
theorem np (w:Nat->Nat) (v:Nat) {i:Nat}:∀n,i<=n->bW w i v<=bW w n v
 | 0,h=>by rw[show i=0 from aa];exact aZ _
 | n+1,h=>by
  by_cases g:i=n+1
  ·rw[g];exact aZ _
  ·rw[bW];have:=np w v (i:=i) n aa;omega
theorem sF (w:Nat->Nat) (k:Nat):∀n,aM w n k<=n*2^(k-1)
 | 0=>Nat.zero_le _
 | n+1=>by
  rw[aM,Nat.add_mul,Nat.one_mul];have:=sF w k n
  split
  ·have:0<2^(k-1):=Nat.two_pow_pos _
   omega
  ·have:2^(w n-1)<=2^(k-1):=Nat.pow_le_pow_right aa aa
   omega
def fg (w:Nat->Nat) (n i:Nat):Nat:=aM w n (w i-1)+bW w i (w i)*2^(w i-1)
theorem nq (w:Nat->Nat) {n i k:Nat} (hi:i<n) (h0:w i≠0) (l:w i<=k):fg w n i+2^(w i-1)<=aM w n k:=by
 obtain⟨v,g⟩:∃v,w i=v+1:=⟨w i-1,aa⟩
 have p:=iG w v n
 have h:=np w (v+1) (i:=i+1) n hi
 rw[bW,ai g] at h
 have q:=gg w (k:=v+1) (k':=k) aa n
 unfold fg
 rw[g,Nat.add_sub_cancel]
 have j:(bW w i (v+1)+1)*2^v<=bW w n (v+1)*2^v:=Nat.mul_le_mul_right _ h
 rw[Nat.add_mul,Nat.one_mul] at j
 omega
def me (w:Nat->Nat) (c:Nat):Option ((Nat->Nat)×Nat) :=
 if((List.range c).any fun i=>decide (12<w i))=true then none
 else
  let mask:=aM w c 12
  if mask=0 then none
  else
   let tb:=Nat.log2 mask+1
   if 11<tb then none
   else
    let left:=2^tb-mask
    let hb:=Nat.log2 left
    if 2^hb≠left then none
    else if 256<=c then none
    else
     let w':=cV w c (hb+1)
     if bW w' (c+1) 1<2\/bW w' (c+1) 1%2≠0 then none
     else some (w',tb)
def dP (w:Nat->Nat) (n tb:Nat) (old:Nat->Nat):Nat->Nat->Nat
 | 0=>old
 | i+1=>if w i=0 then dP w n tb old i else fun p=>if fg w n i<=p/\p<fg w n i+2^(w i-1) then i*256+(tb+1-w i) else dP w n tb old i p
def eN (d:Nat->Nat) (n off:Nat) (old:Nat->Nat):Option ((Nat->Nat)×Nat×Nat) :=
 match kN d n off with
 | none=>none
 | some (w,c,q)=>(me w c).map fun r=>(dP r.1 (c+1) r.2 old (c+1),r.2,q)
theorem vx {w:Nat->Nat} {c:Nat} {w':Nat->Nat} {tb:Nat} (h:me w c=some (w',tb)):c<256/\1<=tb/\tb<=11/\(∀i,i<c+1->w' i<=tb)/\aM w' (c+1) tb=2^tb/\∃hb,w'=cV w c (hb+1):=by
 unfold me at h
 split at h
 ·cases h
 rename_i h12
 dsimp only at h
 split at h
 ·cases h
 rename_i hm
 split at h
 ·cases h
 rename_i h11
 split at h
 ·cases h
 rename_i hl
 split at h
 ·cases h
 rename_i hc
 split at h
 ·cases h
 obtain⟨rfl,rfl⟩:=Prod.mk.inj (Option.some.inj h)
 have hl:=Decidable.not_not.1 hl
 have q:=Nat.lt_log2_self (n:=aM w c 12)
 have u:2^Nat.log2 (2^(Nat.log2 (aM w c 12)+1)-aM w c 12)≠0:=by have:=Nat.two_pow_pos (Nat.log2 (2^(Nat.log2 (aM w c 12)+1)-aM w c 12));omega
 generalize ht:Nat.log2 (aM w c 12)+1=tb at *
 generalize t:Nat.log2 (2^tb-aM w c 12)=hb at *
 have g:∀i,i<c->w i<=12:=fun i hi=>by
  rcases Nat.lt_or_ge 12 (w i) with h|h
  ·exact absurd (List.any_eq_true.2 ⟨i,List.mem_range.2 hi,decide_eq_true h⟩) h12
  ·exact h
 have j:∀i,i<c->w i<=tb:=fun i hi=>by
  by_cases h0:w i=0
  ·omega
  ·have y:=mE w h0 (g i hi) c hi
   have l:2^(w i-1)<2^tb:=aa
   have:=(Nat.pow_lt_pow_iff_right (a:=2) aa).1 l
   omega
 have p:hb+1<=tb:=by
  have l:2^hb<2^tb:=aa
  have:=(Nat.pow_lt_pow_iff_right (a:=2) aa).1 l
  omega
 refine⟨aa,aa,aa,fun i hi=>?_,?_,hb,rfl⟩
 ·by_cases r:i=c
  ·rw[r,bL];exact p
  ·rw[bz _ _ _ _ r];exact j i aa
 ·rw[aM,gT (w':=w) c (fun i hi=>bz _ _ _ _ aa),bL,ah aa,Nat.add_sub_cancel,jx w (k:=tb) (k':=12) c (fun i hi=>⟨j i hi,g i hi⟩)]
  omega
end Go.Proofs.YtogmacnlpclgkaaGreatDoor
