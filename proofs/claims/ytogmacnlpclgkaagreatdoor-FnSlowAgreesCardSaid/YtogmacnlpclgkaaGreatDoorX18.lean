/- Texts 18. -/
import Derived.Test.YtogmacnlpclgkaaGreatDoorX17
set_option linter.all false
namespace Go.Proofs.YtogmacnlpclgkaaGreatDoor
open Go Go.Eng Go.Pz
attribute [local irreducible] RO J av aO
set_option maxRecDepth 20000
variable {G:ao} {d:Nat->Nat}
theorem zT (l g:Nat) (x:Int) (s:RS) (h:Option Addr) (n j:Nat) (hd:∀i,d i<256) (O:aU G h n j d) (M:n<=2^20) (a k B start b:Nat) (V:iE d a k B) (I:(a-k)/8<=n) (U:a<=8*n+7) (y:start<2^32) (hb:b<=31) (z:b<=k) (t:k<=b+7) :
  av Tryz.prog G 103 #[bf l,.int .u8 (b:Nat)] [(l,nG g h n j ((a-k)/8) start B k),(g,az x s)] (fun v m =>
   v = .tuple #[.int .u32 (dQ d a b:Nat),.nilIface]/\b<=a/\∃B',iE d (a-b) ((a-b)%8) B'/\(a-b)/8<=n/\m=[(l,tu g h n j start (a-b) B'),(g,az x s)]):=by
 refine bE Tryz.func103 fun c h0 hex=>?_
 refine go ?_
 refine ae (nk (G:=G) l g h n j hd O M a k B start b V U I y aa) ?_
 rintro v m (⟨C,rfl,k',B',u,h3,q,h6,rfl⟩|⟨C,rfl,off,B',k',u,rfl⟩)
 ·have W:=q.al
  have Y:=q.le
  have J:2^b<=2^31:=Nat.pow_le_pow_right aa hb
  have F:1<=2^b:=Nat.one_le_two_pow
  have H:=q.lt
  have t:k'<=b+7:=aa
  have r:=vw q u t
  have K:B'/2^(k'-b)<=B':=Nat.div_le_self _ _
  have p:k'-b=(a-b)%8:=aa
  refine go ?_;refine af ?_;refine ag [4,5] (post:=[(l,tu g h n j start (a-b) B'),(g,az x s)]) (junk:=[]) ⟨?_,aa,B',by rw[<- p];exact q.less u,aa,rfl⟩ rfl (.cons ?_ (.refl _))
  ·show Value.tuple #[.int .u32 ((B'/2^(k'-b)&&&1*2^b-1:Nat):Int),.nilIface] = .tuple #[.int .u32 ((dQ d a b:Nat):Int),.nilIface]
   rw[Nat.one_mul,Nat.and_two_pow_sub_one_eq_mod,r]
  ·refine(FA g h n j _ _ _ _ _).trans ?_
   unfold tu;rw[p,show(a-k')/8=(a-b)/8 from aa]
 ·exact absurd (.inl z) C
theorem iE.init (hd:∀i,d i<256) {o:Nat} (h0:d o≠0):iE d (8*o+Nat.log2 (d o)) ((8*o+Nat.log2 (d o))%8) (d o)/\(8*o+Nat.log2 (d o))%8=Nat.log2 (d o)/\(8*o+Nat.log2 (d o))/8=o:=by
 have h:=hd o
 have j:Nat.log2 (d o)<8:=(Nat.log2_lt h0).2 h
 have g:(8*o+Nat.log2 (d o))%8=Nat.log2 (d o):=aa
 refine⟨?_,g,aa⟩
 rw[g]
 refine⟨aa,aa,aa,?_,aa⟩
 rw[Nat.min_eq_left aa,Nat.add_sub_cancel]
 have:=jI d o (Nat.log2 (d o)) 0 aa
 rw[Nat.add_zero,Nat.pow_zero,Nat.div_one] at this
 exact this.symm
def Bt (fs:Value) (m:ao):Prop:=(fs = .slice none 0 0/\m=[])\/∃b g l c k,fs = .slice (bi b) l c/\l<=c/\c*3<=k/\m=[(b,⟨k,g,211,(0,0)⟩)]
def sG (w:Nat->Nat) (n k:Nat) (v:Nat):Nat:=if 1<=v/\v<=k then aM w n (v-1) else bW w n v
set_option maxHeartbeats 2000000 in
theorem J5 (S:bN G) (g K hb:Nat) (x:Int) (s:RS) (w:Nat->Nat) (c0 q:Nat) (old:Nat->Nat) (em jk:ao) (hw:∀i,w i<256) (hc:c0<=255) (c:World) (h0:dx) (hex:h0.ex=false) (f:Fr) (R:Value->ao->Prop)
  (hR:∀v m,(match me w c0 with
   | some (w',b)=>v = .tuple #[ay b,ay q,.nilIface]/\m=(g,az x s)::(hb,bn .u16 2048 (dP w' (c0+1) b old (c0+1)) 157)::em
   | none=>∃e,v = .tuple #[.int .i64 0,.int .i64 0,e]/\dM S .z e/\m=(g,az x s)::(hb,bn .u16 2048 old 157)::em)->R v m) :
  J Tryz.prog G c Tryz.f106.ntmps h0 (m8 7 (uR Tryz.f106.body)) (Eng.Ends Tryz.prog G c Tryz.f106 h0 R)
   (lh f [(0,bf g),(2,ay q),(3,.slice (bi hb) 2048 2048),(12,bf K),(13,ay c0)]) ((K,bn .u8 256 w 217)::(g,az x s)::(hb,bn .u16 2048 old 157)::(em++jk)):=by
 have u:me w c0=none->∀e,dM S .z e->R (.tuple #[.int .i64 0,.int .i64 0,e]) ((g,az x s)::(hb,bn .u16 2048 old 157)::em):=fun h e r=>hR _ _ (by rw[h];exact⟨e,rfl,r,rfl⟩)
 have b8:∀a b:Nat,b<256->(a*2^8)|||b=a*256+b:=fun a b hb=>by
  rw[Nat.or_comm,fQ (j:=8) hb,Nat.add_comm]
 have C:(∀i,i<c0->w i<=12)->¬((List.range c0).any fun i=>decide (12<w i))=true:=fun h h2=>by
  obtain⟨i,hi,bu⟩:=List.any_eq_true.1 h2;have:=h i (List.mem_range.1 hi)
  have:=of_decide_eq_true bu
  omega
 refine go ?_
 refine aC z219 rfl hex fun V ds=>?_
 refine go ?_
 refine aH (σ:=Nat×(Nat->Nat)) [] (fun t=>[(0,bf g),(2,ay q),(3,.slice (bi hb) 2048 2048),(12,bf K),(13,ay c0),(26,bf V),(27,.int .u32 (aM w t.1 12:Nat)),(279,.slice (bi K) c0 256),(280,ay c0),(281,ay t.1)])
  (fun t=>(V,bn .u32 13 t.2 219)::(K,bn .u8 256 w 217)::(g,az x s)::(hb,bn .u16 2048 old 157)::(em++jk))
  (fun t=>t.1<=c0/\(∀i,i<t.1->w i<=12)/\∀v,v<=12->t.2 v=bW w t.1 v) (fun t=>c0-t.1) (0,fun _=>0) ci ⟨Nat.zero_le _,fun i hi=>absurd hi (Nat.not_lt_zero _),fun v _=>rfl⟩ ?_
 rintro⟨i,y⟩ f ⟨hi,H,B⟩
 dsimp only at hi H B ⊢
 have bt:=sF w 12 i
 simp only[Nat.reduceSub,Nat.reducePow] at bt
 refine go ?_
 refine ac rfl (fun c7=>?_) (fun c6=>?_)
 ·have cw:=hw i
  refine go ?_;rw[Nat.zero_add];refine ac rfl (fun cq=>?_) (fun cS=>?_)
  ·have a3:12<w i:=aa
   refine go ?_;refine ae (c_ S g x s _ _) ?_
   rintro v m ⟨⟨b',rfl⟩,rfl⟩;refine go ?_;refine af ?_;exact ag [8,9,10] (post:=(g,az x s)::(hb,bn .u16 2048 old 157)::em) (u (by unfold me;rw[ai (List.any_eq_true.2 ⟨i,List.mem_range.2 aa,decide_eq_true a3⟩)]) _ ⟨b',rfl⟩)
  ·have b6:y (w i)=bW w i (w i):=B _ aa
   have b9:=rI w (w i) i
   have hp:=Nat.pow_le_pow_right (n:=2) (i:=w i-1) (j:=11) aa aa
   have F:aM w (i+1) 12=aM w i 12+if w i=0\/12<w i then 0 else 2^(w i-1):=rfl
   refine go ?_;rw[show y (0+w i)=bW w i (w i) by rw[Nat.zero_add];exact b6]
   refine go ?_;have bq:∀v,v<=12->cV y (0+w i) (bW w i (w i)+1) v=bW w (i+1) v:=fun v hv=>by
    rw[Nat.zero_add,bW];by_cases r:v=w i
    ·rw[r,bL,ai rfl]
    ·rw[bz _ _ _ _ r,ah (fun h=>r h.symm),Nat.add_zero];exact B v hv
   have Y:∀j,j<i+1->w j<=12:=fun j hj=>by
    by_cases r:j=i
    ·rw[r];omega
    ·exact H j aa
   refine ac rfl (fun cp=>?_) (fun hz=>?_)
   ·rw[ah aa] at F;refine go ?_;rw[Nat.one_mul,<- F];refine⟨(i+1,_),by dsimp only;omega,⟨by dsimp only;omega,Y,bq⟩,cF,.refl _⟩
   ·rw[ai aa] at F;have bb:aM w (i+1) 12=aM w i 12:=aa
    refine go ?_;rw[<- bb];refine⟨(i+1,_),by dsimp only;omega,⟨by dsimp only;omega,Y,bq⟩,cF,.refl _⟩
 ·have b7:i=c0:=aa
  subst b7;refine go ?_;refine ac rfl (fun b5=>?_) (fun b5=>?_)
  ·refine go ?_;refine ae (c_ S g x s _ _) ?_
   rintro v m ⟨⟨b',rfl⟩,rfl⟩;refine go ?_;refine af ?_;exact ag [8,9,10] (post:=(g,az x s)::(hb,bn .u16 2048 old 157)::em) (u (by unfold me;rw[ah (C H)];dsimp only;rw[ai aa]) _ ⟨b',rfl⟩)
  ·refine go ?_;refine aA (Do (x:=aM w i 12) aa) ?_
   have ce:=iP (x:=aM w i 12) (k:=32) aa
   refine go ?_;rw[show 32-(32-gH (aM w i 12))=Nat.log2 (aM w i 12)+1 by rw[show gH (aM w i 12)=Nat.log2 (aM w i 12)+1 from ah aa] at *;omega]
   obtain⟨mk,a1⟩:∃mk,mk=aM w i 12:=⟨_,rfl⟩
   have br:=Nat.lt_log2_self (n:=aM w i 12)
   obtain⟨b,a0⟩:∃b,b=Nat.log2 (aM w i 12)+1:=⟨_,rfl⟩
   rw[<- a0] at br ⊢;rw[<- a1] at br ⊢;have c4:mk≠0:=aa
   refine go ?_;refine ac rfl (fun a6=>?_) (fun a6=>?_)
   ·refine go ?_;refine ae (c_ S g x s _ _) ?_
    rintro v m ⟨⟨b',rfl⟩,rfl⟩;refine go ?_;refine af ?_;exact ag [8,9,10] (post:=(g,az x s)::(hb,bn .u16 2048 old 157)::em) (u (by unfold me;rw[ah (C H)];dsimp only;rw[ah aa,ai aa]) _ ⟨b',rfl⟩)
   ·have ch:2^b<=2^11:=Nat.pow_le_pow_right aa aa
    refine go ?_;rw[Nat.one_mul];refine ac rfl (fun h=>absurd h aa) (fun _=>?_)
    refine go ?_;rw[Nat.one_mul];refine go ?_;refine ac rfl (fun h=>absurd h aa) (fun _=>?_)
    obtain⟨lf,al⟩:∃lf,lf=2^b-mk:=⟨_,rfl⟩
    rw[<- al];have W:lf≠0:=aa
    have bs:Nat.log2 lf<12:=(Nat.log2_lt W).2 aa
    have cc:gH lf=Nat.log2 lf+1:=ah W
    refine go ?_;refine aA (Do (x:=lf) aa) ?_
    rw[cc];refine go ?_;rw[show 31-(32-(Nat.log2 lf+1))=Nat.log2 lf from aa];obtain⟨hg,ad⟩:∃hg,hg=Nat.log2 lf:=⟨_,rfl⟩
    rw[<- ad] at bs ⊢;have dl:2^hg<=2^11:=Nat.pow_le_pow_right aa aa
    refine go ?_;rw[Nat.one_mul];refine ac rfl (fun cx=>?_) (fun cN=>?_)
    ·refine go ?_;refine ae (c_ S g x s _ _) ?_
     rintro v m ⟨⟨b',rfl⟩,rfl⟩;refine go ?_;refine af ?_;exact ag [8,9,10] (post:=(g,az x s)::(hb,bn .u16 2048 old 157)::em) (u (by unfold me;rw[ah (C H)];dsimp only;rw[ah aa,<- a0,ah aa,<- a1,<- al,<- ad,ai aa]) _ ⟨b',rfl⟩)
    ·have dm:2^hg=lf:=aa
     refine go ?_;refine ac rfl (fun h=>absurd h aa) (fun _=>?_)
     have a7:=B (hg+1) aa
     have b9:=rI w (hg+1) i
     refine go ?_;rw[show y (0+(hg+1))=bW w i (hg+1) by rw[Nat.zero_add];exact a7]
     obtain⟨w',O⟩:∃w',w'=cV w i (hg+1):=⟨_,rfl⟩
     have M:∀v,v<=12->cV y (0+(hg+1)) (bW w i (hg+1)+1) v=bW w' (i+1) v:=fun v hv=>by
      rw[Nat.zero_add,bW,O,bL,n7 (w':=w) i fun j hj=>bz _ _ _ _ aa]
      by_cases r:v=hg+1
      ·rw[r,bL,ai rfl]
      ·rw[bz _ _ _ _ r,ah (fun h=>r h.symm),Nat.add_zero];exact B v hv
     obtain⟨y',aw⟩:∃y',y'=cV y (0+(hg+1)) (bW w i (hg+1)+1):=⟨_,rfl⟩
     rw[<- aw] at M;have c2:=rI w' 1 (i+1)
     have hT:me w i=if bW w' (i+1) 1<2\/bW w' (i+1) 1%2≠0 then none else some (w',b):=by
      unfold me;rw[ah (C H)];dsimp only;rw[ah aa,<- a0,ah aa,<- a1,<- al,<- ad,ah aa,ah aa,<- O]
     refine go ?_;rw[<- aw,Nat.zero_add,Nat.zero_add,<- O,M 1 aa];have I:(bW w' (i+1) 1<2\/bW w' (i+1) 1%2≠0)->∀e,dM S .z e->R (.tuple #[.int .i64 0,.int .i64 0,e]) ((g,az x s)::(hb,bn .u16 2048 old 157)::em):=fun h e r=>u (by rw[hT,ai h]) e r
     refine aJ 364 rfl (fun cr=>?_) (fun bo=>?_)
     ·refine go ?_;refine ae (c_ S g x s _ _) ?_
      rintro v m ⟨⟨b',rfl⟩,rfl⟩;refine go ?_;refine af ?_;exact ag [8,9,10] (post:=(g,az x s)::(hb,bn .u16 2048 old 157)::em) (I (.inl aa) _ ⟨b',rfl⟩)
     ·have a5:=M 1 aa
      refine go ?_;rw[Nat.zero_add,a5];refine go ?_;refine ac rfl (fun cl=>?_) (fun a2=>?_)
      ·refine go ?_;refine ae (c_ S g x s _ _) ?_
       rintro v m ⟨⟨b',rfl⟩,rfl⟩;refine go ?_;refine af ?_;exact ag [8,9,10] (post:=(g,az x s)::(hb,bn .u16 2048 old 157)::em) (I (.inr aa) _ ⟨b',rfl⟩)
      ·rw[ah aa] at hT;obtain⟨t1,t2,t3,t4,t5,b4,t6⟩:=vx hT;clear t6 b4 I u B a7 a5 C;have bv:=fun m hm=>hR (.tuple #[ay b,ay q,.nilIface]) m (by rw[hT];exact⟨rfl,hm⟩)
       clear hR hT;have bc:∀v,v<=12->y' v=sG w' (i+1) 0 v:=fun v hv=>by unfold sG;rw[ah aa];exact M v hv
       clear M aw O bo a2;have cd:∀j,j<i+1->w' j<=11:=fun j hj=>by have:=t4 j hj;omega
       refine go ?_;refine aH (σ:=Nat×(Nat->Nat)) (vals:=[]) [] (fun t=>[(2,ay q),(3,.slice (bi hb) 2048 2048),(8,ay b),(12,bf K),(13,.int .i64 ((i+1:Nat):Int)),(26,bf V),(32,.int .u32 (aM w' (i+1) t.1:Nat)),(33,ay t.1)])
        (fun t=>(V,bn .u32 13 t.2 219)::(K,bn .u8 256 w' 217)::(g,az x s)::(hb,bn .u16 2048 old 157)::(em++jk))
        (fun t=>t.1<=b/\∀v,v<=12->t.2 v=sG w' (i+1) t.1 v) (fun t=>b-t.1) (0,y') (.refl _) ⟨Nat.zero_le _,bc⟩ ?_ (hf:=⟨rfl,rfl,rfl,rfl,rfl,rfl,by show Value.int .u32 0 = .int .u32 _;rw[iF];rfl,rfl,trivial⟩)
       clear bc y'
       rintro⟨k,y⟩ f ⟨hk,B⟩;dsimp only at hk B ⊢;have b3:=gg w' hk (i+1)
       rw[t5] at b3;refine go ?_;refine ac rfl (fun cm=>?_) (fun cs=>?_)
       ·have F:=iG w' k (i+1)
        have a8:=gg w' (k:=k+1) (k':=b) aa (i+1)
        rw[t5] at a8;have ca:y (k+1)=bW w' (i+1) (k+1):=by rw[B (k+1) aa];unfold sG;rw[ah aa]
        refine go ?_;rw[show y (0+(k+1))=bW w' (i+1) (k+1) by rw[Nat.zero_add];exact ca]
        obtain⟨pr,ba⟩:∃pr,pr=bW w' (i+1) (k+1)*2^k:=⟨_,rfl⟩
        have bm:bW w' (i+1) (k+1)*2^k<2^32:=by rw[<- ba] at F ⊢;omega
        refine uU rfl rfl rfl rfl (by show k<=32;omega) (by show _<2^32;exact bm) rfl ?_
        rw[<- ba] at F ⊢;refine go ?_;rw[Nat.zero_add,<- F];refine⟨(k+1,cV y (k+1) (aM w' (i+1) k)),by dsimp only;omega,⟨by dsimp only;omega,fun v hv=>?_⟩,cF,.refl _⟩
        dsimp only;unfold sG;by_cases r:v=k+1
        ·rw[r,bL,ai aa,Nat.add_sub_cancel]
        ·rw[bz _ _ _ _ r,B v hv];unfold sG;by_cases hc:1<=v/\v<=k
         ·rw[ai hc,ai aa]
         ·rw[ah hc,ah aa]
       ·have b1:k=b:=aa
        subst b1;have bd:∀v,1<=v->v<=k->y v=aM w' (i+1) (v-1)+bW w' 0 v*2^(v-1):=fun v h1 h2=>by
         rw[B v aa];unfold sG;rw[ai ⟨h1,h2⟩];simp only[bW,Nat.zero_mul,Nat.add_zero]
        clear B;refine go ?_;refine aH (σ:=Nat×(Nat->Nat)) [] (fun t=>[(2,ay q),(3,.slice (bi hb) 2048 2048),(8,ay k),(26,bf V),(392,.slice (bi K) (i+1) 256),(393,.int .i64 ((i+1:Nat):Int)),(394,ay t.1)])
         (fun t=>(V,bn .u32 13 t.2 219)::(K,bn .u8 256 w' 217)::(g,az x s)::(hb,bn .u16 2048 (dP w' (i+1) k old t.1) 157)::(em++jk))
         (fun t=>t.1<=i+1/\∀v,1<=v->v<=k->t.2 v=aM w' (i+1) (v-1)+bW w' t.1 v*2^(v-1)) (fun t=>i+1-t.1) (0,y) (.refl _) ⟨Nat.zero_le _,bd⟩ ?_
        clear bd y;rintro⟨j,y⟩ f ⟨hj,B⟩;dsimp only at hj B ⊢;refine go ?_;refine ac rfl (fun cu=>?_) (fun cn=>?_)
        ·have c1:=cd j aa
         have a9:=t4 j aa
         refine go ?_;rw[Nat.zero_add];refine ac rfl (fun c3=>?_) (fun dc=>?_)
         ·have U:w' j=0:=aa
          refine go ?_;refine⟨(j+1,y),by dsimp only;omega,⟨by dsimp only;omega,fun v h1 h2=>?_⟩,cF,?_⟩
          ·dsimp only;rw[B v h1 h2,show bW w' (j+1) v=bW w' j v by rw[bW,ah aa];rfl]
          ·dsimp only;rw[dP,ai U];exact .refl _
         ·have U:w' j≠0:=aa
          have gz:=nq w' (n:=i+1) (i:=j) (k:=k) aa U a9
          rw[t5] at gz;have ab:y (w' j)=fg w' (i+1) j:=B (w' j) aa a9
          obtain⟨st,ax⟩:∃st,st=fg w' (i+1) j:=⟨_,rfl⟩
          rw[<- ax] at gz ab;have c8:2^(w' j-1)<=2^11:=Nat.pow_le_pow_right aa aa
          obtain⟨ln,am⟩:∃ln,ln=2^(w' j-1):=⟨_,rfl⟩
          refine go ?_;refine gb rfl rfl rfl rfl (by show _<2^16;omega) (by show _<2^16;omega) (b8 j (k+1-w' j) aa) rfl ?_
          refine go ?_;rw[Nat.one_mul,<- am,show y (0+w' j)=st by rw[Nat.zero_add];exact ab]
          obtain⟨tv,be⟩:∃tv,tv=j*256+(k+1-w' j):=⟨_,rfl⟩
          rw[<- be];obtain⟨TT,a4⟩:∃TT,TT=dP w' (i+1) k old j:=⟨_,rfl⟩
          rw[<- a4];refine go ?_;refine aH (σ:=Nat) [] (fun t=>[(2,ay q),(3,.slice (bi hb) 2048 2048),(8,ay k),(26,bf V),(36,.int .u8 (w' j:Nat)),(37,.int .u32 (ln:Nat)),(38,.int .u16 (tv:Nat)),(39,.int .u32 (st:Nat)),(40,.int .u32 (t:Nat)),(392,.slice (bi K) (i+1) 256),(393,.int .i64 ((i+1:Nat):Int)),(394,ay j)])
           (fun t=>(V,bn .u32 13 y 219)::(K,bn .u8 256 w' 217)::(g,az x s)::(hb,bn .u16 2048 (fun p=>if st<=p/\p<st+t then tv else TT p) 157)::(em++jk))
           (fun t=>t<=ln) (fun t=>ln-t) 0 ?_ (Nat.zero_le _) ?_
          ·refine .skip (.skip (.skip (.cons ?_ (.refl _))))
           refine c9 fun p _=>?_
           show Value.int .u16 _=Value.int .u16 ((if st<=p/\p<st+0 then tv else TT p:Nat):Int)
           rw[ah aa]
          rintro l f hl;refine go ?_;refine ac rfl (fun da=>?_) (fun c5=>?_)
          ·refine go ?_;refine⟨l+1,aa,aa,cF,.skip (.skip (.skip (.cons ?_ (.refl _))))⟩
           refine c9 fun p _=>?_
           show Value.int .u16 ((cV (fun p=>if st<=p/\p<st+l then tv else TT p) (0+(st+l)) tv p:Nat):Int)=Value.int .u16 ((if st<=p/\p<st+(l+1) then tv else TT p:Nat):Int)
           rw[Nat.zero_add];by_cases r:p=st+l
           ·rw[r,bL,ai aa]
           ·rw[bz _ _ _ _ r];by_cases hc:st<=p/\p<st+l
            ·rw[ai hc,ai aa]
            ·rw[ah hc,ah aa]
          ·have cb:l=ln:=aa
           subst cb;refine go ?_;rw[show y (0+w' j)=st by rw[Nat.zero_add];exact ab]
           refine go ?_;refine⟨(j+1,cV y (w' j) (st+l)),by dsimp only;omega,⟨by dsimp only;omega,fun v h1 h2=>?_⟩,cF,?_⟩
           ·dsimp only;rw[bW];by_cases r:v=w' j
            ·rw[r,bL,ai rfl,ax,am,Nat.add_mul,Nat.one_mul];unfold fg;rw[Nat.add_assoc]
            ·rw[bz _ _ _ _ r,ah (fun h=>r h.symm),B v h1 h2]
             rfl
           ·dsimp only;rw[Nat.zero_add,dP,ah U,<- ax,<- am,<- be,<- a4];exact .refl _
        ·refine go ?_;refine af ?_;have b2:j=i+1:=aa
         subst b2;exact ag [8,9,10] (post:=(g,az x s)::(hb,bn .u16 2048 (dP w' (i+1) k old (i+1)) 157)::em) (bv _ rfl)
theorem pd {N i r q log c p:Nat} {sh:Nat->Int} (h:eI true d N i r q=some (log,sh,c,p)) (t:i<=9):5<=log/\log<=i/\fe sh (r+1) (2^log)/\p<=8*N:=by
 unfold eI at h
 rw[ai (rfl:true=true)] at h
 by_cases l:8*N<q+16
 ·rw[ai l] at h;cases h
 ·rw[ah l] at h;dsimp only at h;by_cases k:i<aq d q 4+5
  ·rw[ai k] at h;cases h
  ·rw[ah k] at h;obtain⟨⟨z,c1,F⟩,y,j⟩:=Option.map_eq_some_iff.1 h;obtain⟨g,j⟩:=Prod.mk.inj j;subst g;simp only[Prod.mk.injEq] at j
   obtain⟨-,rfl,rfl,rfl⟩:=j;have H:2^(aq d q 4+5)<=2^9:=Nat.pow_le_pow_right aa aa
   have C:=Nat.two_pow_pos (aq d q 4+5)
   obtain⟨f1,f2,B,A,_,u⟩:=jL y aa (Nat.zero_le _) (fun _ _=>rfl) (fun _=>by show(-1:Int)<=0;decide)
   exact⟨aa,aa,fe.zeros (c:=c1) ⟨dO.of_log aa aa,fun s _=>A s,by rw[f1];show 0+0+2^_=_;omega⟩ f2 B,(u aa).2⟩
theorem gU {sh:Nat->Int} {n size p:Nat} (f:fe sh n size) (g:p<size):aI sh n size p<n:=by
 by_cases h:p<size-aL sh n
 ·exact(gf f h).1
 ·exact(gR h g).1
theorem km {g bt i:Nat->Nat} {start k a s1 s2 c:Nat} {w:Nat->Nat} (h:¬jM start a (bt s1)) (j:k≠0):dh g bt i d start k a s1 s2 w c=if 254<=c then none else some (cV (cV w c (g s1)) (c+1) (g s2),c+2):=by
 obtain⟨k,rfl⟩:∃k',k=k'+1:=⟨k-1,aa⟩
 rw[dh,ai h]
theorem pe {g bt i:Nat->Nat} {start k a s1 s2 c:Nat} {w:Nat->Nat} (h:jM start a (bt s1)) (j:c<255):dh g bt i d start (k+1) a s1 s2 w c=dh g bt i d start k (a-bt s1) s2 (i s1+dQ d a (bt s1)) (cV w c (g s1)) (c+1):=by
 rw[dh,ah (fun x=>x h),ah aa]
theorem pf {g bt j:Nat->Nat} {start k a s1 s2 c:Nat} {w:Nat->Nat} (h:jM start a (bt s1)) (i:255<=c) (l:k≠0):dh g bt j d start k a s1 s2 w c=none:=by
 obtain⟨k,rfl⟩:∃k',k=k'+1:=⟨k-1,aa⟩
 rw[dh,ah (fun x=>x h),ai i]
structure Kw where
 a:Nat
 B:Nat
 s1:Nat
 s2:Nat
 w:Nat->Nat
 c:Nat
set_option maxHeartbeats 3000000 in
theorem yv (S:bN G) (l hb:Nat) (x:Int) (s:RS) (da:Option Addr) (n U:Nat) (hd:∀i,d i<256) (hv:aU G da n U d) (hn:n<=2^20) (off:Nat) (old:Nat->Nat) (fm:ao) (bq:off<=2^20) (Y:Bt s.fs fm) :
  av Tryz.prog G 106 #[bf l,.slice da n U,ay off,.slice (bi hb) 2048 2048] ((l,az x s)::(hb,bn .u16 2048 old 157)::fm) (fun v m=>∃J I,Bt J I /\
   match eN d n off old with
   | some (g,b,q)=>v = .tuple #[ay b,ay q,.nilIface]/\m=(l,az x (s.wFs J))::(hb,bn .u16 2048 g 157)::I
   | none=>∃e,v = .tuple #[.int .i64 0,.int .i64 0,e]/\jr S e/\m=(l,az x (s.wFs J))::(hb,bn .u16 2048 old 157)::I):=by
 refine bE Tryz.func106 fun c h0 hex=>?_
 have H:kN d n off=none->eN d n off old=none:=fun h=>by unfold eN;rw[h]
 refine go ?_
 refine ac rfl (fun bv=>?_) (fun b4=>?_)
 ·have hW:kN d n off=none:=by unfold kN;rw[ai aa]
  rw[H hW];refine go ?_;refine ae (eZ S l x s _) ?_
  rintro v m ⟨⟨b',rfl⟩,rfl⟩;refine go ?_;refine af ?_;exact ag [8,9,10] (post:=(l,az x s)::(hb,bn .u16 2048 old 157)::fm) ⟨s.fs,fm,Y,_,rfl,.inl ⟨b',rfl⟩,rfl⟩
 ·have ba:off<n:=aa
  obtain⟨b0,o0,rfl⟩:=hv.some aa;obtain⟨hdr,M⟩:∃hdr,hdr=d off:=⟨_,rfl⟩
  have hh:=hd off
  rw[<- M] at hh;refine go ?_;rw[<- M];refine go ?_;refine aC z217 rfl hex fun wb b5=>?_
  refine go ?_;refine bZ (m':=(wb,bn .u8 256 (fun _=>0) 217)::(l,az x s)::(hb,bn .u16 2048 old 157)::fm) ci ?_
  refine bp (σ:=((Nat->Nat)×Nat×Nat)×Value×ao×ao) [0,3,12] (fun t=>[(2,ay t.1.2.2),(13,ay t.1.2.1)]) (fun t=>(wb,bn .u8 256 t.1.1 217)::(l,az x (s.wFs t.2.1))::(hb,bn .u16 2048 old 157)::(t.2.2.1++t.2.2.2))
   (fun t=>kN d n off=some t.1/\(∀i,t.1.1 i<256)/\t.1.2.1<=255/\Bt t.2.1 t.2.2.1) ?_ ?_
  ·refine ac rfl (fun hf=>?_) (fun bu=>?_)
   ·refine dk ?_;refine bp (σ:=Nat×(Nat->Value)×Nat×Nat×Nat) [0,1,2,3,11,12,13] (fun _=>[]) (fun t=>[(wb,bn .u8 256 (fun _=>0) 217),(l,az x (s.wFs (.slice (bi t.1) t.2.2.1 t.2.2.2.1))),(hb,bn .u16 2048 old 157),(t.1,⟨t.2.2.2.2,t.2.1,211,(0,0)⟩)]) (fun t=>64<=t.2.2.1/\t.2.2.1<=t.2.2.2.1/\t.2.2.2.1*3<=t.2.2.2.2) ?_ ?_
    ·rcases Y with⟨Y,rfl⟩|⟨j,g0,p,y,u,Y,O,V,rfl⟩
     ·rw[show az x s=az x (s.wFs (.slice none 0 0)) by rw[<- Y]]
      refine go ?_;refine ac rfl (fun _=>?_) (fun h=>absurd h (by decide))
      refine go ?_;refine gm rfl rfl rfl rfl z211 (by decide) (aZ _) (by decide) hex rfl fun j bd=>?_
      refine go ?_;refine⟨(j,bQ [.int .u8 0,.int .u8 0,.int .u16 0],64,64,192),⟨aZ _,aZ _,aZ _⟩,joined ?_⟩
      exact aR.trans (.of_perm (List.perm_append_comm (l₁:=[_]) (l₂:=[_,_,_]))) (.skip ci)
     ·rw[show az x s=az x (s.wFs (.slice (bi j) p y)) by rw[<- Y]]
      refine go ?_;refine ac rfl (fun _=>?_) (fun b6=>?_)
      ·refine bZ (m':=[(wb,bn .u8 256 (fun _=>0) 217),(l,az x (s.wFs (.slice (bi j) p y))),(hb,bn .u16 2048 old 157)]++[(j,⟨u,g0,211,(0,0)⟩)]) (.refl _) (Ho ?_)
       refine go ?_;refine gm rfl rfl rfl rfl z211 (by decide) (aZ _) (by decide) hex rfl fun j bd=>?_
       refine go ?_;refine⟨(j,bQ [.int .u8 0,.int .u8 0,.int .u16 0],64,64,192),⟨aZ _,aZ _,aZ _⟩,joined ?_⟩
       exact aR.trans (.of_perm (List.perm_append_comm (l₁:=[_]) (l₂:=[_,_,_]))) (.skip ci)
      ·refine go ?_;exact⟨(j,g0,p,y,u),⟨by dsimp only;omega,O,V⟩,joined (.refl _)⟩
    ·rintro⟨j,g0,p,y,u⟩ f ⟨bb,O,V⟩;dsimp only at bb O V;refine go ?_;dsimp only;refine ae (uk S l j x (s.wFs (.slice (bi j) p y)) _ n U hd hv hn (off+1) 255 6 p y ⟨u,g0,211,(0,0)⟩ aa (by decide) (by decide) (by show 64<=p;omega) O (by show p*3<=u;omega) rfl) ?_
     rintro v m K
     cases hP:eI true d n 6 255 (8*(off+1)) with
     | none =>
      rw[hP] at K;obtain⟨e,rfl,⟨b',rfl⟩,rfl⟩:=K;have hW:kN d n off=none:=by
       unfold kN;rw[ah aa,<- M,ai aa];unfold gI;rw[hP]
       rfl
      rw[H hW];refine go ?_;refine af ?_;exact ag [8,9,10] (post:=[(l,az x (s.wFs (.slice (bi j) p y))),(hb,bn .u16 2048 old 157),(j,_)]) ⟨_,_,.inr ⟨j,g0,p,y,u,rfl,O,V,rfl⟩,_,rfl,.inl ⟨b',rfl⟩,rfl⟩
     | some P =>
      obtain⟨log,sh,cx,q⟩:=P;rw[hP] at K;dsimp only at K;obtain⟨rfl,C,rfl,aw,_⟩:=K;obtain⟨p1,p2,p3,p4⟩:=pd hP aa;have p3:fe sh 256 (2^log):=p3
      have aw:Br C sh 256 log:=aw
      have b7:2^log<=2^6:=Nat.pow_le_pow_right aa aa
      have hW:kN d n off=(gI d n (off+1) hdr).map fun r=>(r.1,r.2,off+1+hdr):=by
       unfold kN;rw[ah aa,<- M,ai aa]
      have hF:gI d n (off+1) hdr=if n<off+1+hdr then none else if d (off+1+hdr-1)=0 then none else
        let a:=8*(off+1+hdr-1)+Nat.log2 (d (off+1+hdr-1))
        let st:=(q+7)/8
        if ¬jM st a log then none
        else if ¬jM st (a-log) log then none
        else dh (aI sh 256 (2^log)) (aG sh 256 log) (bO sh 256 log) d st 256 (a-log-log) (dQ d a log) (dQ d (a-log) log) (fun _=>0) 0:=by
       unfold gI;rw[hP]
      refine go ?_;refine ac rfl (fun bo=>?_) (fun dE=>?_)
      ·have bc:gI d n (off+1) hdr=none:=by rw[hF,ai aa]
       rw[H (by rw[hW,bc];rfl)]
       refine go ?_;refine ae (eZ S l x (s.wFs (.slice (bi j) p y)) _) ?_
       rintro v m ⟨⟨b',rfl⟩,rfl⟩;refine go ?_;refine af ?_;exact ag [8,9,10] (post:=[(l,az x (s.wFs (.slice (bi j) p y))),(hb,bn .u16 2048 old 157),(j,⟨u,C,211,(0,0)⟩)]) ⟨_,_,.inr ⟨j,C,p,y,u,rfl,O,V,rfl⟩,_,rfl,.inl ⟨b',rfl⟩,rfl⟩
      ·rw[ah aa] at hF;have F:gI d n (off+1) hdr=none->∀e,dM S .z e->∃J I,Bt J I/\(match eN d n off old with
        | some (g,b,q)=>Value.tuple #[.int .i64 0,.int .i64 0,e] = .tuple #[ay b,ay q,.nilIface]/\[(l,az x (s.wFs (.slice (bi j) p y))),(hb,bn .u16 2048 old 157),(j,⟨u,C,211,(0,0)⟩)]=(l,az x (s.wFs J))::(hb,bn .u16 2048 g 157)::I
        | none=>∃e',Value.tuple #[.int .i64 0,.int .i64 0,e] = .tuple #[.int .i64 0,.int .i64 0,e']/\jr S e'/\[(l,az x (s.wFs (.slice (bi j) p y))),(hb,bn .u16 2048 old 157),(j,⟨u,C,211,(0,0)⟩)]=(l,az x (s.wFs J))::(hb,bn .u16 2048 old 157)::I):=fun h e he=>by
         refine⟨_,[(j,_)],.inr ⟨j,C,p,y,u,rfl,O,V,rfl⟩,?_⟩
         rw[H (by rw[hW,h];rfl)]
         exact⟨_,rfl,.inl he,rfl⟩
       refine go ?_;refine ae (n6 S l x (s.wFs (.slice (bi j) p y)) _ n U hd hv hn (off+1+hdr-1) ((q+7)/8) aa aa) ?_
       rintro v m ⟨rfl,al⟩;by_cases hz:d (off+1+hdr-1)=0
       ·rw[ai hz] at al hF;obtain⟨e,rfl,⟨b',rfl⟩⟩:=al;refine go ?_;refine aC z191 rfl hex fun W be=>?_
        refine go ?_;refine ak (s:=5) (vs:=[.pointer none,.slice none 0 0,.int .u32 0,.int .u32 0,.int .u32 0,.int .u32 0]) rfl rfl rfl rfl (cC rfl) .here (aZ 6) rfl hex ?_
        refine go ?_;refine af ?_;exact ag [8,9,10] (post:=[(l,az x (s.wFs (.slice (bi j) p y))),(hb,bn .u16 2048 old 157),(j,⟨u,C,211,(0,0)⟩)]) (F hF _ ⟨b',rfl⟩)
       ·rw[ah hz] at al hF;subst al;obtain⟨i1,i2,i3⟩:=iE.init (d:=d) hd hz
        obtain⟨o,ho⟩:∃o,o=off+1+hdr-1:=⟨_,rfl⟩
        rw[<- ho] at hF i1 i2 i3 ⊢;obtain⟨a,ha⟩:∃a,a=8*o+Nat.log2 (d o):=⟨_,rfl⟩
        obtain⟨st,a7⟩:∃st,st=(q+7)/8:=⟨_,rfl⟩
        dsimp only at hF;rw[<- ha,<- a7] at hF;rw[<- ha] at i1 i2 i3;rw[<- a7];refine go ?_;refine aC z191 rfl hex fun W be=>?_
        refine go ?_;refine ak (s:=5) (vs:=[bf l,.slice (some ⟨b0,o0,none⟩) n U,.int .u32 (o:Nat),.int .u32 (st:Nat),.int .u32 (d o:Nat),.int .u32 (Nat.log2 (d o):Nat)]) rfl rfl rfl rfl (cC rfl) .here (aZ 6) rfl hex ?_
        refine go ?_;refine bj (m':=(W,tu l (some ⟨b0,o0,none⟩) n U st a (d o))::[(l,az x (s.wFs (.slice (bi j) p y))),(j,⟨u,C,211,(0,0)⟩),(wb,bn .u8 256 (fun _=>0) 217),(hb,bn .u16 2048 old 157)]) (.cons (by unfold tu;rw[i2,i3];exact aW rfl rfl rfl rfl) (.refl _)) ?_
        refine ae (jN S W l x (s.wFs (.slice (bi j) p y)) _ n U hd hv hn a (d o) st log i1 aa aa aa) ?_
        rintro v m (⟨u1,rfl,u2,B1,u3,u4,rfl⟩|⟨u1,⟨e,rfl,⟨b',rfl⟩⟩,of,B',k',u2,rfl⟩)
        ·rw[ah (fun h=>h u1)] at hF
         refine go ?_;refine ae (jN S W l x (s.wFs (.slice (bi j) p y)) _ n U hd hv hn (a-log) B1 st log u3 aa aa aa) ?_
         rintro v m (⟨w1,rfl,w2,B2,w3,w4,rfl⟩|⟨w1,⟨e,rfl,⟨b',rfl⟩⟩,of,B',k',w2,rfl⟩)
         ·rw[ah (fun h=>h w1)] at hF
          obtain⟨E,hE⟩:∃E,E=gI d n (off+1) hdr:=⟨_,rfl⟩
          rw[<- hE] at hF F;have a6:=eS d a log
          have al:=eS d (a-log) log
          refine go ?_;refine aH (σ:=Kw) [0,2,3,11,12,17,18] (fun t=>[(13,ay t.c),(19,.int .u32 (t.s1:Nat)),(20,.int .u32 (t.s2:Nat))]) (fun t=>[(W,tu l (some ⟨b0,o0,none⟩) n U st t.a t.B),(l,az x (s.wFs (.slice (bi j) p y))),(j,⟨u,C,211,(0,0)⟩),(wb,bn .u8 256 t.w 217),(hb,bn .u16 2048 old 157)])
           (fun t=>iE d t.a (t.a%8) t.B/\t.a/8<=n/\t.s1<2^log/\t.s2<2^log/\t.c<=255/\(∀i,t.w i<256)/\dh (aI sh 256 (2^log)) (aG sh 256 log) (bO sh 256 log) d st (256-t.c) t.a t.s1 t.s2 t.w t.c=E) (fun t=>256-t.c) ⟨a-log-log,B2,dQ d a log,dQ d (a-log) log,fun _=>0,0⟩ ?_ ⟨w3,w4,a6,al,Nat.zero_le _,fun _=>Nat.two_pow_pos 8,hF.symm⟩ ?_
          ·exact .skip (.skip (.skip (.refl _)))
          clear a6 al w1 w2 w3 w4 B2 u1 u2 u3 u4 B1 i1 i2 i3;rintro⟨a,B,s1,s2,w,c1⟩ f ⟨j1,j2,j3,j4,j5,j6,j7⟩;dsimp only at j1 j2 j3 j4 j5 j6 j7 ⊢;obtain⟨c3,c4,c5⟩:=aw s1 j3;obtain⟨c6,c7,c8⟩:=aw s2 j4;obtain⟨_,k1,k2⟩:=h_ p3 j3;obtain⟨_,k3,k4⟩:=h_ p3 j4;have bs:=gU p3 j3
          have b1:=gU p3 j4
          refine go ?_;refine aF (v:=.int .u8 (aG sh 256 log s1:Nat)) rfl rfl (.there (.there .here)) (by show _<u;omega) (by show C (0+s1*(2+1)+1)=_;rw[show 0+s1*(2+1)+1=s1*3+1 from aa];exact c4) rfl ?_
          refine go ?_;have ht:=nk (G:=G) W l _ n U hd hv hn a (a%8) B st (aG sh 256 log s1) j1 aa aa aa aa
          rw[show(a-a%8)/8=a/8 from aa] at ht;refine ae ht ?_
          clear ht;rintro v m (⟨h1,rfl,k',B',h2,h3,h4,h6,rfl⟩|⟨h1,rfl,of,B',k',h2,rfl⟩)<;>rw[List.cons_append,List.nil_append]
          ·refine go ?_;refine aF (v:=.int .u8 (aG sh 256 log s1:Nat)) rfl rfl (.there (.there .here)) (by show _<u;omega) (by show C (0+s1*(2+1)+1)=_;rw[show 0+s1*(2+1)+1=s1*3+1 from aa];exact c4) rfl ?_
           refine go ?_;refine ae (zT (d:=d) W l x (s.wFs (.slice (bi j) p y)) _ n U hd hv hn a k' B' st (aG sh 256 log s1) h4 h6 aa aa aa h2 aa) ?_
           rintro v m ⟨rfl,x1,B2,x2,x3,rfl⟩
           try rw[List.cons_append,List.cons_append,List.nil_append]
           have a8:=eS d a (aG sh 256 log s1)
           refine go ?_;refine aF (v:=.int .u16 (bO sh 256 log s1:Nat)) rfl rfl (.there (.there .here)) (by show _<u;omega) (by show C (0+s1*(2+1)+2)=_;rw[show 0+s1*(2+1)+2=s1*3+2 from aa];exact c5) rfl ?_
           refine go ?_;refine ac rfl (fun am=>?_) (fun ad=>?_)
           ·have ab:E=none:=by rw[<- j7];exact pf h1 aa aa
            refine go ?_;refine ae (iQ S W l x (s.wFs (.slice (bi j) p y)) _ n U ((a-aG sh 256 log s1)/8) st _ _ aa _) ?_
            rintro v m ⟨⟨b',rfl⟩,rfl⟩;refine go ?_;refine af ?_;exact ag [8,9,10] (post:=[(l,az x (s.wFs (.slice (bi j) p y))),(hb,bn .u16 2048 old 157),(j,⟨u,C,211,(0,0)⟩)]) (F ab _ ⟨b',rfl⟩)
           ·refine go ?_;refine aF (v:=.int .u8 (aI sh 256 (2^log) s1:Nat)) rfl rfl (.there (.there .here)) (by show _<u;omega) (by show C (0+s1*(2+1)+0)=_;rw[show 0+s1*(2+1)+0=s1*3 from aa];exact c3) rfl ?_
            refine go ?_;rw[show 0+c1=c1 from Nat.zero_add c1];obtain⟨sn,a1⟩:∃sn,sn=bO sh 256 log s1+dQ d a (aG sh 256 log s1):=⟨_,rfl⟩
            obtain⟨a2,a9⟩:∃a2,a2=a-aG sh 256 log s1:=⟨_,rfl⟩
            obtain⟨w2,a0⟩:∃w2,w2=cV w c1 (aI sh 256 (2^log) s1):=⟨_,rfl⟩
            have j8:dh (aI sh 256 (2^log)) (aG sh 256 log) (bO sh 256 log) d st (256-(c1+1)) a2 s2 sn w2 (c1+1)=E:=by
             rw[<- j7,show 256-c1=(256-(c1+1))+1 from aa,pe h1 aa,<- a1,<- a9,<- a0]
            have j9:∀i,w2 i<256:=fun i=>by
             rw[a0];unfold cV;split
             ·omega
             ·exact j6 i
            have ax:sn<2^log:=aa
            obtain⟨e3,e4,e5⟩:=aw sn ax;have br:=gU p3 ax
            rw[<- a9] at x2 x3 ⊢;rw[<- a1,<- a0];clear a1 a0 h1 h2 h3 h4 h6 j1 j7 a8;refine go ?_;refine aF (v:=.int .u8 (aG sh 256 log s2:Nat)) rfl rfl (.there (.there .here)) (by show _<u;omega) (by show C (0+s2*(2+1)+1)=_;rw[show 0+s2*(2+1)+1=s2*3+1 from aa];exact c7) rfl ?_
            refine go ?_;have ht:=nk (G:=G) W l _ n U hd hv hn a2 (a2%8) B2 st (aG sh 256 log s2) x2 aa aa aa aa
            rw[show(a2-a2%8)/8=a2/8 from aa] at ht;refine ae ht ?_
            clear ht;rintro v m (⟨h1,rfl,k',B',h2,h3,h4,h6,rfl⟩|⟨h1,rfl,of,B',k',h2,rfl⟩)<;>rw[List.cons_append,List.nil_append]
            ·refine go ?_;refine aF (v:=.int .u8 (aG sh 256 log s2:Nat)) rfl rfl (.there (.there .here)) (by show _<u;omega) (by show C (0+s2*(2+1)+1)=_;rw[show 0+s2*(2+1)+1=s2*3+1 from aa];exact c7) rfl ?_
             refine go ?_;refine ae (zT (d:=d) W l x (s.wFs (.slice (bi j) p y)) _ n U hd hv hn a2 k' B' st (aG sh 256 log s2) h4 h6 aa aa aa h2 aa) ?_
             rintro v m ⟨rfl,x1,B3,x4,x5,rfl⟩
             try rw[List.cons_append,List.cons_append,List.nil_append]
             try rw[List.cons_append,List.cons_append,List.nil_append]
             have a8:=eS d a2 (aG sh 256 log s2)
             refine go ?_;refine aF (v:=.int .u16 (bO sh 256 log s2:Nat)) rfl rfl (.there (.there .here)) (by show _<u;omega) (by show C (0+s2*(2+1)+2)=_;rw[show 0+s2*(2+1)+2=s2*3+2 from aa];exact c8) rfl ?_
             refine go ?_;refine ac rfl (fun am=>?_) (fun ad=>?_)
             ·have ab:E=none:=by rw[<- j8];exact pf h1 aa aa
              refine go ?_;refine ae (iQ S W l x (s.wFs (.slice (bi j) p y)) _ n U ((a2-aG sh 256 log s2)/8) st _ _ aa _) ?_
              rintro v m ⟨⟨b',rfl⟩,rfl⟩;refine go ?_;refine af ?_;exact ag [8,9,10] (post:=[(l,az x (s.wFs (.slice (bi j) p y))),(hb,bn .u16 2048 old 157),(j,⟨u,C,211,(0,0)⟩)]) (F ab _ ⟨b',rfl⟩)
             ·refine go ?_;refine aF (v:=.int .u8 (aI sh 256 (2^log) s2:Nat)) rfl rfl (.there (.there .here)) (by show _<u;omega) (by show C (0+s2*(2+1)+0)=_;rw[show 0+s2*(2+1)+0=s2*3 from aa];exact c6) rfl ?_
              refine go ?_;obtain⟨sm,a5⟩:∃sm,sm=bO sh 256 log s2+dQ d a2 (aG sh 256 log s2):=⟨_,rfl⟩
              rw[<- a5];refine⟨⟨a2-aG sh 256 log s2,B3,sn,sm,cV w2 (c1+1) (aI sh 256 (2^log) s2),c1+1+1⟩,by dsimp only;omega,⟨x4,x5,ax,by dsimp only;omega,by dsimp only;omega,fun i=>?_,?_⟩,cF,?_⟩
              ·dsimp only;unfold cV;split
               ·omega
               ·exact j9 i
              ·dsimp only;rw[<- j8,show 256-(c1+1)=(256-(c1+1+1))+1 from aa,pe h1 aa,<- a5]
              ·simp only[Nat.zero_add]
               exact .refl _
            ·refine go ?_;refine ac rfl (fun am=>?_) (fun ad=>?_)
             ·have ab:E=none:=by rw[<- j8,km h1 aa,ai aa]
              refine go ?_;refine ae (iQ S W l x (s.wFs (.slice (bi j) p y)) _ n U of st _ _ h2 _) ?_
              rintro v m ⟨⟨b',rfl⟩,rfl⟩;refine go ?_;refine af ?_;exact ag [8,9,10] (post:=[(l,az x (s.wFs (.slice (bi j) p y))),(hb,bn .u16 2048 old 157),(j,⟨u,C,211,(0,0)⟩)]) (F ab _ ⟨b',rfl⟩)
             ·refine go ?_;refine aF (v:=.int .u8 (aI sh 256 (2^log) s2:Nat)) rfl rfl (.there (.there .here)) (by show _<u;omega) (by show C (0+s2*(2+1)+0)=_;rw[show 0+s2*(2+1)+0=s2*3 from aa];exact c6) rfl ?_
              refine go ?_;refine aF (v:=.int .u8 (aI sh 256 (2^log) sn:Nat)) rfl rfl (.there (.there .here)) (by show _<u;omega) (by show C (0+sn*(2+1)+0)=_;rw[show 0+sn*(2+1)+0=sn*3 from aa];exact e3) rfl ?_
              refine go ?_;have a3:E=some (cV (cV w2 (c1+1) (aI sh 256 (2^log) s2)) ((c1+1)+1) (aI sh 256 (2^log) sn),(c1+1)+2):=by rw[<- j8,km h1 aa,ah aa]
              refine⟨((cV (cV w2 (c1+1) (aI sh 256 (2^log) s2)) ((c1+1)+1) (aI sh 256 (2^log) sn),(c1+1)+2,off+1+hdr),.slice (bi j) p y,[(j,⟨u,C,211,(0,0)⟩)],[(W,nG l (some ⟨b0,o0,none⟩) n U of st B' k')]),⟨by rw[hW,<- hE,a3];rfl,fun i=>?_,by dsimp only;omega,.inr ⟨j,C,p,y,u,rfl,O,V,rfl⟩⟩,?_,?_⟩
              ·dsimp only;unfold cV;split
               ·omega
               ·split
                ·omega
                ·exact j9 i
              ·exact cF
              ·simp only[Nat.zero_add]
               exact(show aR _ ([(wb,_),(l,_),(hb,_),(j,⟨u,C,211,(0,0)⟩)]++[(W,_)]) from yo)
          ·refine go ?_;refine ac rfl (fun am=>?_) (fun ad=>?_)
           ·have ab:E=none:=by rw[<- j7,km h1 aa,ai aa]
            refine go ?_;refine ae (iQ S W l x (s.wFs (.slice (bi j) p y)) _ n U of st _ _ h2 _) ?_
            rintro v m ⟨⟨b',rfl⟩,rfl⟩;refine go ?_;refine af ?_;exact ag [8,9,10] (post:=[(l,az x (s.wFs (.slice (bi j) p y))),(hb,bn .u16 2048 old 157),(j,⟨u,C,211,(0,0)⟩)]) (F ab _ ⟨b',rfl⟩)
           ·refine go ?_;refine aF (v:=.int .u8 (aI sh 256 (2^log) s1:Nat)) rfl rfl (.there (.there .here)) (by show _<u;omega) (by show C (0+s1*(2+1)+0)=_;rw[show 0+s1*(2+1)+0=s1*3 from aa];exact c3) rfl ?_
            refine go ?_;refine aF (v:=.int .u8 (aI sh 256 (2^log) s2:Nat)) rfl rfl (.there (.there .here)) (by show _<u;omega) (by show C (0+s2*(2+1)+0)=_;rw[show 0+s2*(2+1)+0=s2*3 from aa];exact c6) rfl ?_
            refine go ?_;have a3:E=some (cV (cV w c1 (aI sh 256 (2^log) s1)) (c1+1) (aI sh 256 (2^log) s2),c1+2):=by rw[<- j7,km h1 aa,ah aa]
            refine⟨((cV (cV w c1 (aI sh 256 (2^log) s1)) (c1+1) (aI sh 256 (2^log) s2),c1+2,off+1+hdr),.slice (bi j) p y,[(j,⟨u,C,211,(0,0)⟩)],[(W,nG l (some ⟨b0,o0,none⟩) n U of st B' k')]),⟨by rw[hW,<- hE,a3];rfl,fun i=>?_,by dsimp only;omega,.inr ⟨j,C,p,y,u,rfl,O,V,rfl⟩⟩,?_,?_⟩
            ·dsimp only;unfold cV;split
             ·omega
             ·split
              ·omega
              ·exact j6 i
            ·exact cF
            ·simp only[Nat.zero_add]
             exact(show aR _ ([(wb,_),(l,_),(hb,_),(j,⟨u,C,211,(0,0)⟩)]++[(W,_)]) from yo)
         ·rw[ai w1] at hF;refine go ?_;refine af ?_;exact ag [8,9,10] (post:=[(l,az x (s.wFs (.slice (bi j) p y))),(hb,bn .u16 2048 old 157),(j,⟨u,C,211,(0,0)⟩)]) (F hF _ ⟨b',rfl⟩)
        ·rw[ai u1] at hF;refine go ?_;refine af ?_;exact ag [8,9,10] (post:=[(l,az x (s.wFs (.slice (bi j) p y))),(hb,bn .u16 2048 old 157),(j,⟨u,C,211,(0,0)⟩)]) (F hF _ ⟨b',rfl⟩)
   ·refine go ?_;obtain⟨c1,a4⟩:∃c1,c1=hdr-127:=⟨_,rfl⟩
    rw[<- a4];refine ac rfl (fun bo=>?_) (fun dE=>?_)
    ·have hW:kN d n off=none:=by
      unfold kN;rw[ah aa,<- M,ah aa,<- a4,ai aa]
     rw[H hW];refine go ?_;refine aK rfl rfl (by simp[S.u0]) S.u0n S.u0g rfl ?_
     refine go ?_;refine af ?_;exact ag [8,9,10] (post:=(l,az x s)::(hb,bn .u16 2048 old 157)::fm) ⟨s.fs,fm,Y,_,rfl,.inr rfl,rfl⟩
    ·have hW:kN d n off=some (lI d (off+1) c1,c1,off+1+(c1+1)/2):=by
      unfold kN;rw[ah aa,<- M,ah aa,<- a4,ah aa]
     refine go ?_;refine aH (σ:=Nat) [0,1,3,12,13] (fun k=>[(2,.int .i64 ((off+1+k:Nat):Int)),(24,.int .i64 ((2*k:Nat):Int))]) (fun k=>(wb,bn .u8 256 (fun i=>if i<2*k then(if i%2=0 then d (off+1+i/2)/16 else d (off+1+i/2)%16) else 0) 217)::(l,az x s)::(hb,bn .u16 2048 old 157)::fm)
      (fun k=>k<=(c1+1)/2) (fun k=>c1-2*k) 0 (.refl _) (Nat.zero_le _) ?_
     rintro k f hk;refine go ?_;refine ac rfl (fun b2=>?_) (fun bt=>?_)
     ·have b3:=hd (off+1+k)
      refine go ?_;refine⟨k+1,aa,aa,⟨rfl,by show Value.int .i64 _=Value.int .i64 _;congr 1,rfl,rfl,rfl,rfl,rfl,trivial⟩,.cons ?_ (.refl _)⟩
      refine c9 fun i _=>?_
      show Value.int .u8 ((cV (cV _ _ _) _ _ i:Nat):Int)=Value.int .u8 ((if i<2*(k+1) then(if i%2=0 then d (off+1+i/2)/16 else d (off+1+i/2)%16) else 0:Nat):Int)
      congr 2
      simp only[Nat.zero_add]
      by_cases he:i=2*k+1
      ·rw[he,bL,ai aa,ah aa,show(2*k+1)/2=k from aa]
      ·rw[bz _ _ _ _ aa];by_cases bm:i=2*k
       ·rw[bm,bL,ai aa,ai aa,show 2*k/2=k from aa]
       ·rw[bz _ _ _ _ aa];by_cases hc:i<2*k
        ·rw[ai hc,ai (show i<2*(k+1) from aa)]
        ·rw[ah hc,ah (show ¬i<2*(k+1) from aa)]
     ·refine go ?_;refine⟨((lI d (off+1) c1,c1,off+1+(c1+1)/2),s.fs,fm,[]),⟨hW,fun i=>?_,by dsimp only;omega,Y⟩,⟨by show Value.int .i64 _=Value.int .i64 _;congr 1;dsimp only;omega,rfl,rfl,rfl,rfl,trivial⟩,.cons ?_ (by dsimp only;rw[List.append_nil];exact .refl _)⟩
      ·dsimp only;unfold lI;have:=hd (off+1+i/2)
       split
       ·split<;>omega
       ·omega
      ·unfold lI;rw[show 2*((c1+1)/2)=2*k from aa]
  ·rintro⟨⟨w,c1,q⟩,J,I,jk⟩ f ⟨C,g2,g3,g4⟩;refine ez [(0,bf l),(2,ay q),(3,.slice (bi hb) 2048 2048),(12,bf wb),(13,ay c1)] _ cF (.refl _) fun f=>?_
   refine J5 S l wb hb x (s.wFs J) w c1 q old I jk g2 g3 c h0 hex f _ fun v m K=>⟨J,I,g4,?_⟩
   unfold eN;rw[C];dsimp only
   cases hT:me w c1 with
   | none=>rw[hT] at K;obtain⟨e,rfl,he,rfl⟩:=K;exact⟨e,rfl,.inl he,rfl⟩
   | some r=>rw[hT] at K;exact K
end Go.Proofs.YtogmacnlpclgkaaGreatDoor
