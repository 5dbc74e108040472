/- Texts 27. -/
import Derived.Test.YtogmacnlpclgkaaGreatDoorX26
set_option linter.all false
namespace Go.Proofs.YtogmacnlpclgkaaGreatDoor
open Go Go.Eng Go.Pz
attribute [local irreducible] RO J av aO
set_option maxRecDepth 20000
variable {G:ao} {d:Nat->Nat}
def DP (B:bk) (n:Nat) (h bits base:Nat->Nat):Prop:=3*n<=B.n/\∀p,p<n->B.g (p*3) = .int .i64 (h p:Nat)/\B.g (p*3+1) = .int .i64 (bits p:Nat)/\B.g (p*3+2) = .int .i64 (base p:Nat)
theorem yM (i:Nat):bQ [.int .i64 0,.int .i64 0,.int .i64 0] i = .int .i64 0:=by
 unfold bQ
 have h:i%3<3:=Nat.mod_lt _ aa
 show List.getD _ (i%3) _=_
 generalize i%3=k at h
 match k,h with
 | 0,_=>rfl
 | 1,_=>rfl
 | 2,_=>rfl
def ir (tb size log:Nat):bk:=aj [.slice (bi tb) size size,ay log] 128
set_option maxHeartbeats 1000000 in
theorem qg (oa:Option Addr) (n cp:Nat) (sh:Nat->Int) (hv:fR G oa n cp sh) (log:Nat) (r:fe sh n (2^log)) (eb:log<=9) (hn:n<=2^20) :
  av Tryz.prog G 61 #[.slice oa n cp,ay log] [] (fun v m=>∃tb TB,v = .agg #[.slice (bi tb) (2^log) (2^log),ay log]/\m=[(tb,TB)] /\
   DP TB (2^log) (aI sh n (2^log)) (aG sh n log) (bO sh n log)):=by
 refine bE Tryz.func61 fun c h0 hex=>?_
 have c0:=r.ok.le
 have cn:=r.ok.pos
 have cc:1*2^log<2^63:=aa
 obtain⟨size,hsz⟩:∃size,size=2^log:=⟨_,rfl⟩
 refine go ?_
 refine aC z128 rfl hex fun K ea=>?_
 refine go ?_
 rw[Nat.one_mul,<- hsz]
 rw[<- hsz] at r c0 cn cc
 refine gm (len:=size) (cap:=size) rfl rfl rfl rfl z138 (by decide) (aZ _) aa hex rfl fun tb d1=>?_
 refine go ?_
 refine bU (vs:=[.slice (bi tb) size size,ay log]) rfl rfl z128 rfl rfl rfl rfl ?_
 refine go ?_
 refine aC z128 rfl hex fun U d8=>?_
 refine go ?_
 refine ak (s:=1) (vs:=[.slice (bi tb) size size,ay log]) rfl rfl rfl rfl (cC rfl) .here (aZ 2) rfl hex ?_
 obtain⟨rB,be⟩:∃rB:bk,rB=aj [.slice none 0 0,.int .i64 0] 128:=⟨_,rfl⟩
 refine cA (m':=[(U,ir tb size log),(K,rB),(tb,⟨size*(2+1),bQ [.int .i64 0,.int .i64 0,.int .i64 0],138,(0,0)⟩)]) ?hM ?hQ ?hR
 case hM=>rw[be];exact .cons dT (.of_perm (List.Perm.swap _ _ _))
 case hQ=>intro f h;refine bZ ?_ h;rw[be];exact .cons dT (.of_perm (List.Perm.swap _ _ _))
 refine go ?_
 refine aH (σ:=Nat×(Nat->Value)) [] (fun t=>[(0,.slice oa n cp),(1,ay log),(4,bf K),(5,ay size),(6,bf U),(7,.int .i64 ((size-aL sh t.1:Nat):Int)),(24,.slice oa n cp),(25,ay n),(26,ay t.1)])
  (fun t=>[(U,ir tb size log),(K,rB),(tb,⟨size*(2+1),t.2,138,(0,0)⟩)])
  (fun t=>t.1<=n/\(∀k,k<aL sh t.1->t.2 ((size-1-k)*3) = .int .i64 (iD sh n k:Nat)/\t.2 ((size-1-k)*3+1)=ay log/\t.2 ((size-1-k)*3+2) = .int .i64 0)/\∀p,p<size-aL sh t.1->t.2 (p*3) = .int .i64 0/\t.2 (p*3+1) = .int .i64 0/\t.2 (p*3+2) = .int .i64 0) (fun t=>n-t.1) (0,bQ [.int .i64 0,.int .i64 0,.int .i64 0])
  (.refl _) ⟨Nat.zero_le _,fun k hk=>absurd hk (Nat.not_lt_zero _),fun p _=>⟨yM _,yM _,yM _⟩⟩ ?_
 rintro⟨i,g⟩ f ⟨hi,hg,a3⟩
 dsimp only at hi hg a3 ⊢
 refine go ?_
 refine ac rfl (fun d2=>?_) (fun eo=>?_)
 ·have am:i<n:=aa
  have ec:=r.ge i am
  have cb:=r.sum
  have eq:=kl sh (i:=i+1) (j:=n) am
  obtain⟨b,o,B,rfl,hB,b8,ad⟩:=hv.some aa;refine go ?_;refine aK (v:=.int .i64 (sh i)) rfl rfl (List.mem_append.2 (.inr hB)) aa (ad i am) rfl ?_
  refine go ?_;refine ac rfl (fun c6=>?_) (fun Y=>?_)
  ·have a1:aL sh (i+1)=aL sh i+1:=by rw[aL,ai aa]
   refine go ?_;refine bU (vs:=[ay i,ay log,.int .i64 0]) rfl rfl z138 rfl rfl rfl rfl ?_
   refine go ?_;refine ak (s:=2) (vs:=[ay i,ay log,.int .i64 0]) rfl rfl rfl rfl (cC rfl) (.there (.there .here)) (by show _<=size*(2+1);omega) rfl hex ?_
   refine go ?_;generalize hz:0+(size-aL sh i-1)*(2+1)=z;refine⟨(i+1,cQ g z (2+1) (ct [ay i,ay log,.int .i64 0])),by dsimp only;omega,⟨by dsimp only;omega,fun k hk=>?_,fun p Y=>?_⟩,⟨rfl,rfl,rfl,rfl,rfl,?_,rfl,rfl,rfl,trivial⟩,.refl _⟩
   ·dsimp only at hk ⊢;by_cases W:k=aL sh i
    ·rw[bH _ _ _ _ _ aa aa,bH _ _ _ _ _ aa aa,bH _ _ _ _ _ aa aa,W,pZ sh aa am];rw[show(size-1-aL sh i)*3-z=0 from aa,show(size-1-aL sh i)*3+1-z=1 from aa,show(size-1-aL sh i)*3+2-z=2 from aa];exact⟨rfl,rfl,rfl⟩
    ·rw[aP _ _ _ _ _ aa,aP _ _ _ _ _ aa,aP _ _ _ _ _ aa];exact hg k aa
   ·dsimp only at Y ⊢;rw[aP _ _ _ _ _ aa,aP _ _ _ _ _ aa,aP _ _ _ _ _ aa];exact a3 p aa
   ·dsimp only;rw[a1];show Value.int .i64 ((size-aL sh i-1:Nat):Int)=Value.int .i64 _
    rw[Nat.sub_sub]
  ·have a1:aL sh (i+1)=aL sh i:=by rw[aL,ah aa];rfl
   refine go ?_;exact⟨(i+1,g),by dsimp only;omega,⟨by dsimp only;omega,by dsimp only;rw[a1];exact hg,by dsimp only;rw[a1];exact a3⟩,⟨rfl,rfl,rfl,rfl,rfl,by dsimp only;rw[a1];rfl,rfl,rfl,rfl,trivial⟩,.refl _⟩
 ·have am:i=n:=aa
  subst am;obtain⟨H,hH⟩:∃H,H=size-aL sh i:=⟨_,rfl⟩
  have c5:=r.low
  have cb:=r.sum
  have ee:aL sh i<=size:=aa
  rw[<- hH];refine go ?_;refine aH (σ:=Nat×Nat×(Nat->Value)) [] (fun t=>[(0,.slice oa i cp),(4,bf K),(5,ay size),(6,bf U),(7,ay H),(10,.int .i64 (db size t.2.1:Nat)),(43,.slice oa i cp),(44,ay i),(45,ay t.1)])
   (fun t=>[(U,ir tb size log),(K,rB),(tb,⟨size*(2+1),t.2.2,138,(0,0)⟩)])
   (fun t=>t.1<=i/\t.2.1<=size/\fK size H t.2.1=bX sh t.1/\(0<H->db size t.2.1<H)/\(H=0->t.2.1=0)/\(∀p,p<H->gG size p<t.2.1->t.2.2 (p*3) = .int .i64 (fL sh i (fK size H (gG size p)):Nat))/\(∀p,p<H->t.2.2 (p*3+1) = .int .i64 0/\t.2.2 (p*3+2) = .int .i64 0) /\
    ∀c,H*3<=c->t.2.2 c=g c) (fun t=>i-t.1) (0,0,g)
   (.refl _) ⟨Nat.zero_le _,Nat.zero_le _,rfl,fun h=>by show db size 0<H;rw[kL];exact h,fun _=>rfl,fun p _ Y=>absurd Y (Nat.not_lt_zero _),fun p Y=>⟨(a3 p aa).2.1,(a3 p aa).2.2⟩,fun _ _=>rfl⟩ ?_
   (vals:=[]) (hf:=⟨rfl,rfl,rfl,rfl,rfl,by show Value.int .i64 0=Value.int .i64 ((db size 0:Nat):Int);rw[kL];rfl,rfl,rfl,rfl,trivial⟩)
  rintro⟨a,jj,g1⟩ f ⟨ha,hj,bW,C,V,y,F,l⟩;dsimp only at ha hj bW C V y F l ⊢;refine go ?_;refine ac rfl (fun dm=>?_) (fun da=>?_)
  ·have ab:a<i:=aa
   have d6:=r.ge a ab
   have ax:bX sh (a+1)=bX sh a+(sh a).toNat:=rfl
   have dt:=gd sh (i:=a+1) (j:=i) ab
   obtain⟨b,o,B,rfl,hB,b8,ad⟩:=hv.some aa;refine go ?_;refine aK (v:=.int .i64 (sh a)) rfl rfl (List.mem_append.2 (.inr hB)) aa (ad a ab) rfl ?_
   refine go ?_;refine aH (σ:=Nat×Nat×(Nat->Value)) [] (fun t=>[(0,.slice (some ⟨b,o,none⟩) i cp),(4,bf K),(5,ay size),(6,bf U),(7,ay H),(10,.int .i64 (db size t.2.1:Nat)),(11,ay a),(43,.slice (some ⟨b,o,none⟩) i cp),(44,ay i),(45,ay a),(50,.int .i64 (sh a)),(51,ay t.1)])
    (fun t=>[(U,ir tb size log),(K,rB),(tb,⟨size*(2+1),t.2.2,138,(0,0)⟩)])
    (fun t=>t.1<=(sh a).toNat/\t.2.1<=size/\fK size H t.2.1=bX sh a+t.1/\(0<H->db size t.2.1<H)/\(H=0->t.2.1=0)/\(∀p,p<H->gG size p<t.2.1->t.2.2 (p*3) = .int .i64 (fL sh i (fK size H (gG size p)):Nat))/\(∀p,p<H->t.2.2 (p*3+1) = .int .i64 0/\t.2.2 (p*3+2) = .int .i64 0) /\
     ∀c,H*3<=c->t.2.2 c=g c) (fun t=>(sh a).toNat-t.1) (0,jj,g1)
    (.refl _) ⟨Nat.zero_le _,hj,bW,C,V,y,F,l⟩ ?_
   clear y F l C V bW hj g1 jj;rintro⟨j,jj,g1⟩ f ⟨a7,hj,bW,C,V,y,F,l⟩;dsimp only at a7 hj bW C V y F l ⊢;have bq:H<=size:=aa
   refine go ?_;refine ac rfl (fun b5=>?_) (fun b7=>?_)
   ·have ce:0<H:=aa
    have cm:=C ce
    have gz:=o7 r.ok jj
    have bc:jj<size:=by
     rcases Nat.lt_or_ge jj size with h|h
     ·exact h
     ·exfalso
      have a2:jj=size:=aa
      have:=iC r.ok bq
      rw[a2,this] at bW;omega
    refine go ?_;refine bD (v:=ay a) rfl rfl rfl rfl (.there (.there .here)) (by show _<size*(2+1);omega) rfl hex ?_
    refine go ?_;obtain⟨g2,I⟩:∃g2,g2=gK g1 (db size jj*3) (ay a):=⟨_,rfl⟩
    rw[show 0+db size jj*(2+1)+0=db size jj*3 from aa];refine aH (σ:=Nat) [] (fun u=>[(0,.slice (some ⟨b,o,none⟩) i cp),(4,bf K),(5,ay size),(6,bf U),(7,ay H),(10,.int .i64 (db size u:Nat)),(11,ay a),(43,.slice (some ⟨b,o,none⟩) i cp),(44,ay i),(45,ay a),(50,.int .i64 (sh a)),(51,ay j)])
     (fun _=>[(U,ir tb size log),(K,rB),(tb,⟨size*(2+1),g2,138,(0,0)⟩)])
     (fun u=>jj<=u/\u<size/\fK size H (u+1)=bX sh a+j+1/\∀p,p<H->gG size p<u+1->g2 (p*3) = .int .i64 (fL sh i (fK size H (gG size p)):Nat)) (fun u=>size-u) jj
     (.skip (.skip (.cons (by rw[I];rfl) .nil))) ⟨aZ _,bc,by rw[fK,ai cm,bW],fun p Y cS=>?_⟩ ?_
    ·by_cases W:gG size p=jj
     ·have a5:p=db size jj:=by rw[<- W,iB r.ok aa]
      rw[I,W,bW,nj sh (s:=a) aa aa ab,a5,cG]
     ·have ds:p≠db size jj:=fun h=>W (by rw[h,nh r.ok bc])
      rw[I,aT _ _ _ _ aa];exact y p Y aa
    rintro u f ⟨k1,k2,k3,k4⟩;have c8:=o7 r.ok u
    refine go ?_;rw[show(db size u+size/2+size/8+3)%size=db size (u+1) by rw[pW];unfold jJ;congr 1;omega]
    refine ac rfl (fun d5=>?_) (fun c7=>?_)
    ·refine go ?_;refine⟨(j+1,u+1,g2),by dsimp only;omega,⟨by dsimp only;omega,by dsimp only;omega,by dsimp only;omega,fun _=>by dsimp only;omega,fun h=>absurd h aa,k4,fun p Y=>?_,fun c hc=>?_⟩,cF,.refl _⟩
     ·dsimp only;rw[I,aT _ _ _ _ aa,aT _ _ _ _ aa];exact F p Y
     ·dsimp only;rw[I,aT _ _ _ _ aa];exact l c hc
    ·have ba:¬db size (u+1)<H:=aa
     have cs:u+1<size:=by
      rcases Nat.lt_or_ge (u+1) size with h|h
      ·exact h
      ·exfalso
       have a2:u+1=size:=aa
       rw[a2,pX] at ba;omega
     refine go ?_;refine⟨u+1,aa,⟨aa,cs,by rw[fK,ah ba];exact k3,fun p Y cS=>?_⟩,cF,.refl _⟩
     by_cases W:gG size p=u+1
     ·exfalso
      have a5:p=db size (u+1):=by rw[<- W,iB r.ok aa]
      omega
     ·exact k4 p Y aa
   ·have a2:j=(sh a).toNat:=aa
    subst a2;refine go ?_;exact⟨(a+1,jj,g1),by dsimp only;omega,⟨by dsimp only;omega,hj,by dsimp only;rw[ax];exact bW,C,V,y,F,l⟩,cF,.refl _⟩
  ·have ab:a=i:=aa
   subst ab;have bq:H<=size:=aa
   have a7:∀p,p<H->gG size p<jj:=fun p Y=>by
    have h:0<H:=aa
    rw[su r.ok bq hj (C h) aa];exact ni r.ok p
   have bd:∀q,q<H->g1 (q*3) = .int .i64 (aI sh a size q:Nat):=fun q M=>by
    unfold aI;dsimp only;rw[<- hH,ai M];exact y q M (a7 q M)
   have bo:∀q,H<=q->q<size->g1 (q*3) = .int .i64 (aI sh a size q:Nat)/\g1 (q*3+1)=ay log/\g1 (q*3+2) = .int .i64 0:=fun q b6 ca=>by
    have:=hg (size-1-q) aa
    rw[show size-1-(size-1-q)=q from aa] at this;rw[l _ aa,l _ aa,l _ aa];unfold aI;dsimp only;rw[<- hH,ah aa];exact this
   have cx:∀q,q<size->aI sh a size q<a:=fun q M=>by
    by_cases al:q<size-aL sh a
    ·exact(gf r al).1
    ·exact(gR al M).1
   have c2:0<a:=by
    rcases Nat.eq_zero_or_pos a with h|h
    ·subst h;have h1:bX sh 0=0:=rfl
     have h2:aL sh 0=0:=rfl
     omega
    ·exact h
   obtain⟨b,o,B,rfl,hB,b8,ad⟩:=hv.some c2;refine go ?_;refine bg (s:=0) (src:=fun j=>B.g (o+j)) (k:=a) (len:=0) (v:=.slice none 0 0) (cl:=fun _=>undef) (sm:=[]) (fm:=[(U,ir tb size log),(K,rB),(tb,⟨size*(2+1),g1,138,(0,0)⟩)]) rfl rfl rfl rfl z3 (by decide) rfl rfl (.inl ⟨rfl,rfl,rfl⟩)
    (.refl _) (k_.of (B:=B) (List.mem_append.2 (.inr hB)) aa) (fun x hx=>by rw[ad x aa];rfl) aa hex rfl ?_
   intro v' eh cq cr
   rcases cq with⟨_,h,_⟩|⟨nb,no,bb,J,rfl,rfl,b3,d3,c1,bt⟩
   ·omega
   rw[Nat.zero_add] at c1 bt;have a9:∀s,s<a->J.g (no+s) = .int .i64 (sh s):=fun s hs=>by
    rw[bt s aa];dsimp only;rw[ah aa,show s-0*(0+1)=s from aa];exact ad s hs
   refine go ?_;refine aH (σ:=Nat×(Nat->Value)×(Nat->Value)) [] (fun t=>[(4,bf K),(5,ay size),(6,bf U),(13,.slice (some ⟨nb,no,none⟩) (0+a) bb),(76,ay H),(77,ay t.1)])
    (fun t=>[(U,ir tb size log),(K,rB),(tb,⟨size*(2+1),t.2.1,138,(0,0)⟩),(nb,⟨J.n,t.2.2,J.T,(0,0)⟩)])
    (fun t=>t.1<=H/\(∀s,s<a->t.2.2 (no+s) = .int .i64 (sh s+(jK (aI sh a size) s t.1:Nat)))/\(∀q,q<H->t.2.1 (q*3) = .int .i64 (aI sh a size q:Nat)) /\
     (∀q,q<t.1->t.2.1 (q*3+1) = .int .i64 (aG sh a log q:Nat)/\t.2.1 (q*3+2) = .int .i64 (bO sh a log q:Nat))/\(∀q,t.1<=q->q<H->t.2.1 (q*3+1) = .int .i64 0)/\∀c,H*3<=c->t.2.1 c=g1 c) (fun t=>H-t.1) (0,g1,J.g)
    (by show aR [_,_,_,_] [_,_,_,_];rw[<- b3];exact .refl _) ⟨Nat.zero_le _,fun s hs=>by dsimp only;rw[a9 s hs];show _=Value.int .i64 (sh s+((0:Nat):Int));rw[Int.natCast_zero,Int.add_zero],bd,fun q M=>absurd M (Nat.not_lt_zero _),fun q _ M=>(F q M).1,fun _ _=>rfl⟩ ?_
   clear bt a9 b3 bd y F l C V bW hj a7 jj;rintro⟨p,g3,h3⟩ f ⟨Y,a6,aw,a4,bs,a0⟩;dsimp only at Y a6 aw a4 bs a0 ⊢;refine go ?_;refine ac rfl (fun b5=>?_) (fun b7=>?_)
   ·have b4:p<H:=aa
    have ax:p<size:=aa
    have hs:=cx p ax
    have cu:=p8 r ax
    have d0:=(gf r (p:=p) aa).2
    have a8:sh (aI sh a size p)+(jK (aI sh a size) (aI sh a size p) p:Nat)=((eH sh a size p:Nat):Int):=by
     unfold eH;dsimp only;rw[ah aa];omega
    have b9:∀g:Nat->Value,(∀q,q<H->g (q*3) = .int .i64 (aI sh a size q:Nat))->g (0+p*(2+1)+0) = .int .i64 (aI sh a size p:Nat):=fun g hg=>by
     rw[show 0+p*(2+1)+0=p*3 from aa];exact hg p b4
    have bv:=r
    rw[hsz] at bv;obtain⟨q1,q2,q3⟩:=h_ bv (p:=p) (by rw[<- hsz];exact ax)
    rw[<- hsz] at q1 q3;have bm:aG sh a log p=log-Nat.log2 (eH sh a size p):=by unfold aG;rw[<- hsz]
    have aM:bO sh a log p=eH sh a size p*2^aG sh a log p-size:=by unfold bO;rw[<- hsz]
    have cd:Nat.log2 (eH sh a size p)<=log:=by
     have:=(Nat.log2_lt (n:=eH sh a size p) (k:=log+1) aa).2 (by rw[Nat.pow_succ,<- hsz];omega)
     omega
    obtain⟨O,b1⟩:∃O,O=eH sh a size p:=⟨_,rfl⟩
    rw[<- b1] at cu a8 q1 bm aM cd;have br:∀b,b<aG sh a log p->O*2^b<size:=fun b hb=>by
     have h1:O<2^(Nat.log2 O+1):=Nat.lt_log2_self
     have h2:O*2^b<2^(Nat.log2 O+1)*2^b:=Nat.mul_lt_mul_of_pos_right h1 (Nat.two_pow_pos b)
     rw[<- Nat.pow_add] at h2;have h3:2^(Nat.log2 O+1+b)<=2^log:=Nat.pow_le_pow_right aa aa
     omega
    refine go ?_;refine aF (v:=.int .i64 (aI sh a size p:Nat)) rfl rfl (.there (.there .here)) (by show _<size*(2+1);omega) (b9 g3 aw) rfl ?_
    refine go ?_;refine aF (B:=⟨J.n,h3,J.T,(0,0)⟩) (v:=ay O) rfl rfl (.there (.there (.there .here))) (by show no+_<J.n;omega) (by show h3 (no+aI sh a size p)=_;rw[a6 _ hs,a8]) rfl ?_
    refine go ?_;refine aF (v:=.int .i64 (aI sh a size p:Nat)) rfl rfl (.there (.there .here)) (by show _<size*(2+1);omega) (b9 g3 aw) rfl ?_
    refine go ?_;refine aF (B:=⟨J.n,h3,J.T,(0,0)⟩) (v:=ay O) rfl rfl (.there (.there (.there .here))) (by show no+_<J.n;omega) (by show h3 (no+aI sh a size p)=_;rw[a6 _ hs,a8]) rfl ?_
    refine go ?_;refine bD (B:=⟨J.n,h3,J.T,(0,0)⟩) (v:=.int .i64 ((O+1:Nat):Int)) rfl rfl rfl rfl (.there (.there (.there .here))) (by show no+_<J.n;omega) rfl hex ?_
    refine go ?_;obtain⟨h4,b2⟩:∃h4,h4=gK h3 (no+aI sh a size p) (.int .i64 ((O+1:Nat):Int)):=⟨_,rfl⟩
    have cw:gK g3 (p*3+1) (.int .i64 ((0:Nat):Int))=g3:=by
     funext c
     by_cases hc:c=p*3+1
     ·rw[hc,cG];exact(bs p (aZ _) b4).symm
     ·rw[aT _ _ _ _ hc]
    have c3:∀b,b<=9->O*2^b<2^30:=fun b hb=>by
     have h1:2^b<=2^9:=Nat.pow_le_pow_right aa hb
     have h2:O*2^b<=1024*2^9:=Nat.mul_le_mul aa h1
     omega
    refine aH (σ:=Nat) [] (fun b=>[(4,bf K),(5,ay size),(6,bf U),(13,.slice (some ⟨nb,no,none⟩) (0+a) bb),(15,.pointer (some ⟨tb,0+p*(2+1),none⟩)),(16,ay O),(76,ay H),(77,ay p)])
     (fun b=>[(U,ir tb size log),(K,rB),(tb,⟨size*(2+1),gK g3 (p*3+1) (ay b),138,(0,0)⟩),(nb,⟨J.n,h4,J.T,(0,0)⟩)])
     (fun b=>b<=aG sh a log p) (fun b=>aG sh a log p-b) 0 (.skip (.skip (.cons (by rw[cw]) (.cons (by rw[b2];rfl) .nil)))) (Nat.zero_le _) ?_
    rintro b f hb;have d7:=c3 b aa
    refine go ?_;refine aF (v:=ay b) rfl rfl (.there (.there .here)) (by show _<size*(2+1);omega) (by show gK g3 (p*3+1) _ (0+p*(2+1)+1)=_;rw[show 0+p*(2+1)+1=p*3+1 from aa,cG]) rfl ?_
    refine go ?_;refine ac rfl (fun dl=>?_) (fun dc=>?_)
    ·have d4:b≠aG sh a log p:=by
      rintro rfl;omega
     refine go ?_;refine aF (v:=ay b) rfl rfl (.there (.there .here)) (by show _<size*(2+1);omega) (by show gK g3 (p*3+1) _ (0+p*(2+1)+1)=_;rw[show 0+p*(2+1)+1=p*3+1 from aa,cG]) rfl ?_
     refine go ?_;refine bD (v:=.int .i64 ((b+1:Nat):Int)) rfl rfl rfl rfl (.there (.there .here)) (by show _<size*(2+1);omega) rfl hex ?_
     refine go ?_;refine⟨b+1,aa,aa,cF,.skip (.skip (.cons ?_ (.refl _)))⟩
     show(⟨size*(2+1),gK (gK g3 (p*3+1) (ay b)) (0+p*(2+1)+1) (.int .i64 ((b+1:Nat):Int)),138,(0,0)⟩:bk).obj=_
     rw[show 0+p*(2+1)+1=p*3+1 from aa]
     congr 2
     funext c
     by_cases hc:c=p*3+1
     ·rw[hc,cG,cG]
     ·rw[aT _ _ _ _ hc,aT _ _ _ _ hc,aT _ _ _ _ hc]
    ·have c4:b=aG sh a log p:=by
      by_cases W:b=aG sh a log p
      ·exact W
      ·have:=br b aa
       exact absurd this aa
     subst c4;refine go ?_;refine aF (v:=.int .i64 (aG sh a log p:Nat)) rfl rfl (.there (.there .here)) (by show _<size*(2+1);omega) (by show gK g3 (p*3+1) _ (0+p*(2+1)+1)=_;rw[show 0+p*(2+1)+1=p*3+1 from aa,cG]) rfl ?_
     refine go ?_;rw[<- aM];refine bD (v:=.int .i64 (bO sh a log p:Nat)) rfl rfl rfl rfl (.there (.there .here)) (by show _<size*(2+1);omega) rfl hex ?_
     refine go ?_;refine⟨(p+1,gK (gK g3 (p*3+1) (.int .i64 (aG sh a log p:Nat))) (p*3+2) (.int .i64 (bO sh a log p:Nat)),h4),by dsimp only;omega,⟨by dsimp only;omega,fun s' ch=>?_,fun q M=>?_,fun q M=>?_,fun q b6 ca=>?_,fun c hc=>?_⟩,cF,.skip (.skip (.cons ?_ (.refl _)))⟩
     ·show h4 (no+s')=Value.int .i64 (sh s'+(jK (aI sh a size) s' (p+1):Nat))
      rw[b2,jK];by_cases W:s'=aI sh a size p
      ·rw[W,cG,ai rfl]
       congr 1
       have:=a8
       push_cast
       omega
      ·rw[aT _ _ _ _ aa,ah (fun h=>W h.symm),Nat.add_zero];exact a6 s' ch
     ·dsimp only;rw[aT _ _ _ _ aa,aT _ _ _ _ aa];exact aw q M
     ·dsimp only at M ⊢;by_cases W:q=p
      ·subst W;exact⟨by rw[aT _ _ _ _ aa,cG],cG _ _ _⟩
      ·rw[aT _ _ _ _ aa,aT _ _ _ _ aa,aT _ _ _ _ aa,aT _ _ _ _ aa];exact a4 q aa
     ·dsimp only at b6 ⊢;rw[aT _ _ _ _ aa,aT _ _ _ _ aa];exact bs q aa ca
     ·dsimp only;rw[aT _ _ _ _ aa,aT _ _ _ _ aa];exact a0 c hc
     ·show(⟨size*(2+1),gK (gK g3 (p*3+1) (.int .i64 (aG sh a log p:Nat))) (0+p*(2+1)+2) (.int .i64 (bO sh a log p:Nat)),138,(0,0)⟩:bk).obj=_
      rw[show 0+p*(2+1)+2=p*3+2 from aa]
   ·have a5:p=H:=aa
    subst a5;subst be;refine go ?_;refine cz (s:=1) rfl rfl rfl .here (aZ 2) rfl ?_
    refine go ?_;refine ak (s:=1) (vs:=[.slice (bi tb) size size,ay log]) rfl rfl rfl rfl (cC rfl) (.there .here) (aZ 2) rfl hex ?_
    refine go ?_;refine af ?_;refine cH [.cell 4 128] [.agg #[.slice (bi tb) size size,ay log]] ⟨⟨K,0,1,_,rfl,rfl,rfl,List.mem_cons_of_mem _ List.mem_cons_self,aZ 2,rfl⟩,trivial⟩ (post:=[(tb,⟨size*(2+1),g3,138,(0,0)⟩)]) (junk:=[(U,ir tb size log),(K,_),(nb,⟨J.n,h3,J.T,(0,0)⟩)])
     ⟨tb,_,rfl,rfl,?_⟩ rfl (.of_perm (List.perm_middle (l₁:=[_,_]) (l₂:=[_])))
    refine⟨by show 3*size<=size*(2+1);omega,fun q M=>?_⟩
    dsimp only;by_cases al:q<p
    ·exact⟨aw q al,(a4 q al).1,(a4 q al).2⟩
    ·obtain⟨z1,z2,z3⟩:=bo q aa M;have bu:=sw r (p:=q) aa M
     rw[a0 _ aa,a0 _ aa,a0 _ aa,z1,z2,z3];unfold bO aG;rw[<- hsz,bu];refine⟨rfl,?_,?_⟩
     ·show Value.int .i64 ((log:Nat):Int)=Value.int .i64 ((log-Nat.log2 1:Nat):Int)
      rw[show Nat.log2 1=0 by decide,Nat.sub_zero]
     ·show Value.int .i64 0=Value.int .i64 ((1*2^(log-Nat.log2 1)-size:Nat):Int)
      rw[show Nat.log2 1=0 by decide,Nat.sub_zero,Nat.one_mul,<- hsz,Nat.sub_self]
      rfl
end Go.Proofs.YtogmacnlpclgkaaGreatDoor
namespace Go.Eng
open Go
section
variable {P:Program} {ops:Array Oper} {c:World} {qs:List FuncId} {X:bJ->bJ->Prop} {pr:Nat->Bool}
def qh (P:Program) (ops:Array Oper) (c:World) (qs:List FuncId) (X:bJ->bJ->Prop) (pr:Nat->Bool) (QN:Act->bJ->Prop):Nat->Array Bool->Act->bJ->Prop
 | 0,listed,a,h=>Region.ready .any ops listed=[]/\QN a h
 | fuel+1,listed,a,h =>
  (Region.ready .any ops listed=[]->QN a h) /\
  ∀i∈Region.ready .any ops listed,∀o,ops[i]? = some o ->
   if gE qs o.op<=1 then GQ P ops c h i (fun a'=>qh P ops c qs X pr QN fuel (listed.setIfInBounds i true) a' h) a
   else ∀w,At c h w->wpOp P ops jf i (fun a' w'=>∃g,At c g w'/\(pr i=true->X h g)/\qh P ops c qs X pr QN fuel (listed.setIfInBounds i true) a' g) a w
theorem ot {QN:Act->bJ->Prop} {Q:Exit->Act->World->Prop} (hQ:∀a h w,At c h w->QN a h->Q .normal a w) :
  ∀(fuel:Nat) (listed:Array Bool) (a:Act) (h:bJ) (w:World),At c h w->qh P ops c qs X pr QN fuel listed a h->wpAny P .any ops Q fuel listed a w
 | 0,_,_,_,_,hc,hh=>⟨hh.1,hQ _ _ _ hc hh.2⟩
 | fuel+1,listed,a,h,w,hc,hh=>by
  refine⟨fun h0=>hQ _ _ _ hc (hh.1 h0),fun i hi=>?_⟩
  obtain⟨_,o,l,_⟩:=mem_ready.1 hi;have k:=hh.2 i hi o l
  split at k
  ·exact mf hc (fun a' w' g j=>ot hQ fuel _ a' h w' g j) k
  ·exact nT (wpOp_mono (fun a' w' ⟨j,g,_,h2⟩=>ot hQ fuel _ a' j w' g h2) (k w hc))
theorem yN {QN:Act->bJ->Prop} {i:Nat} {oi:Oper} {v:Value} (hi:ops[i]? = some oi) (M:Region.noSelect ops=true) (A:gE qs oi.op<=1) :
  ∀(fuel:Nat) (listed:Array Bool) (a:Act) (h:bJ),
   (∀j oj,ops[j]? = some oj->j≠i->listed.getD j true=false->(∀e∈oj.after,Region.binds .any e=true->e.on≠i)->oi.apart ops oj=true) ->
   i∈Region.ready .any ops listed->Yields P ops oi v a ->
   qh P ops c qs X pr QN fuel (listed.setIfInBounds i true) (a.put oi.dst v) h->qh P ops c qs X pr QN (fuel+1) listed a h:=by
 have l:=Region.noSelect_spec M
 intro fuel
 induction fuel with
 | zero =>
  intro listed a h _ B O H;refine⟨fun h=>(by rw[h] at B;cases B),fun j hj oj g=>?_⟩
  by_cases p:j=i
  ·subst p;have:oj=oi:=Option.some.inj (g.symm.trans hi)
   subst this;rw[ai A];exact⟨oj,g,v,.of_yields O,H⟩
  ·have:=ready_mono hj p
   rw[H.1] at this;cases this
 | succ fuel ih =>
  intro listed a h r B O H;refine⟨fun h=>(by rw[h] at B;cases B),fun j hj oj g=>?_⟩
  by_cases p:j=i
  ·subst p;have:oj=oi:=Option.some.inj (g.symm.trans hi)
   subst this;rw[ai A];exact⟨oj,g,v,.of_yields O,H⟩
  ·have J:=H.2 j (ready_mono hj p) oj g
   obtain⟨z,t,U,W⟩:=mem_ready.1 hj;have:t=oj:=Option.some.inj (U.symm.trans g)
   subst this;have I:∀e∈t.after,Region.binds .any e=true->e.on≠i:=fun e he hb al=>by
    have h2:=W e he hb
    rw[al,kE B] at h2;cases h2
   have K:=r j t g p z I
   have q:∀k ok,ops[k]? = some ok->k≠i->(listed.setIfInBounds j true).getD k true=false ->
     (∀e∈ok.after,Region.binds .any e=true->e.on≠i)->oi.apart ops ok=true:=fun k ok hk ad V ab=>by
    refine r k ok hk ad ?_ ab
    by_cases F:j=k
    ·subst F;exact z
    ·rw[getD_set_ne true F] at V;exact V
   rw[Array.setIfInBounds_comm _ _ (Ne.symm p)] at J;split
   ·rename_i hc1
    rw[ai hc1] at J;have h2:=rl g K (fun cs b=>l i oi cs b hi) (fun cs b=>l j t cs b g) (Y:=Yields P ops oi v) (fun a a' y e w=>y.of_same e w) O J
    obtain⟨o,ho,u,aw,C,hK⟩:=h2;exact⟨o,ho,u,aw,ih _ _ h q (ready_mono B (Ne.symm p)) C hK⟩
   ·rename_i hc1
    rw[ah hc1] at J;intro w hc;refine wpOp_mono (fun a' w' h3=>?_) (wpOp_put g K (fun cs b=>l i oi cs b hi) (fun cs b=>l j t cs b g) (fun _ _ _ h=>h) O (J w hc))
    obtain⟨C,h',am,hx,hK⟩:=h3;exact⟨h',am,hx,ih _ _ h' q (ready_mono B (Ne.symm p)) C hK⟩
theorem BL {j:Nat} {g k:Oper} {v:Value} (J:ops[j]? = some k) (C:g.apart ops k=true)
  (A:∀cs b,g.op ≠ .select cs b) (z:∀cs b,k.op ≠ .select cs b) {Y:Act->Prop}
  (I:∀a a',Y a->execOp a'.eval g=execOp a.eval g->Region.wanted g (yielded ops a'.tmps)=Region.wanted g (yielded ops a.tmps)->Y a') {K:Act->World->Prop} {a:Act} {w:World}
  (l:Y a) (h:wpOp P ops jf j K (a.put g.dst v) w) :
  wpOp P ops jf j (fun a' w'=>Y a'/\K (a'.put g.dst v) w') a w:=by
 obtain⟨F,t,H⟩:=Oper.apart_spec C
 have keep:∀(a:Act),Y a->∀u,Y (a.put k.dst u):=fun a l u=>I a _ l (execOp_put g A a k.dst u H) (wanted_put g a k.dst u H)
 have p:∀d,Y { a with defers:=d::a.defers }:=fun d=>I a _ l rfl rfl
 unfold wpOp at *
 simp only[J] at *
 rw[wanted_put k a g.dst v F] at h
 split
 ·rename_i hw
  simp only[hw,if_true] at h
  rcases h with h|⟨i,q⟩
  case inr=>exact .inr ⟨by unfold Oper.asks at *;rw[execOp_put k z a g.dst v F] at i;exact i,q⟩
  refine .inl ?_
  unfold Oper.wp at *
  rw[execOp_put k z a g.dst v F] at h;generalize (execOp a.eval k).run P w=r at *
  cases r with
  | ok n w' =>
   cases n<;>simp only[Oper.upon] at h ⊢
   case value u=>exact⟨keep a l u,by rw[<- Act.put_comm a v u t];exact h⟩
   case skip=>exact⟨keep a l _,by rw[<- Act.put_comm a v undef t];exact h⟩
   case defer d =>
    refine⟨keep _ (p d) _,?_⟩
    rw[<- Act.put_comm _ v undef t,<- Act.put_defers];exact h
   case enter f args =>
    refine Calls.mono h fun e B y=>?_
    cases e with
    | returned u=>exact⟨keep a l u,by rw[<- Act.put_comm a v u t];exact y⟩
    | panicked c=>exact y
    | outgrown=>exact y
   case row row args=>exact Rows.mono h fun u B y=>⟨keep a l u,by rw[<- Act.put_comm a v u t];exact y⟩
  | halt x w' =>
   cases x<;>simp only[Oper.upon] at h ⊢
   case panic u=>exact h
 ·rename_i hw
  simp only[hw] at h
  exact⟨keep a l _,by rw[<- Act.put_comm a v undef t];exact h⟩
theorem BM {Z:bJ->Prop} (a1:∀h q,Z h->X h q->Z q) {QN:Act->bJ->Prop} {i:Nat} {oi:Oper} {v:Value} (hi:ops[i]? = some oi) (V:Region.noSelect ops=true) (C:gE qs oi.op<=1)
  {S:Nat->Bool} (t:∀j oj,ops[j]? = some oj->j≠i->(∀e∈oj.after,Region.binds .any e=true->S e.on=true)->S j=true) :
  ∀(fuel:Nat) (listed:Array Bool) (a:Act) (h:bJ),
   (∀j,listed.getD j false=true->S j=true) ->
   (∀j oj,ops[j]? = some oj->S j=true->j≠i->listed.getD j true=false->(gE qs oj.op<=1\/pr j=true)/\oi.apart ops oj=true) ->
   i∈Region.ready .any ops listed->Z h->(∀q,Z q->ft P ops c q oi v a) ->
   qh P ops c qs X pr QN fuel (listed.setIfInBounds i true) (a.put oi.dst v) h->qh P ops c qs X pr QN (fuel+1) listed a h:=by
 have p:=Region.noSelect_spec V
 intro fuel
 induction fuel with
 | zero =>
  intro listed a h _ _ J U hy H;refine⟨fun h=>(by rw[h] at J;cases J),fun j hj oj g=>?_⟩
  by_cases l:j=i
  ·subst l;have:oj=oi:=Option.some.inj (g.symm.trans hi)
   subst this;rw[ai C];exact⟨oj,g,v,hy _ U,H⟩
  ·have:=ready_mono hj l
   rw[H.1] at this;cases this
 | succ fuel ih =>
  intro listed a h hS M J U hy H;refine⟨fun h=>(by rw[h] at J;cases J),fun j hj oj g=>?_⟩
  by_cases l:j=i
  ·subst l;have:oj=oi:=Option.some.inj (g.symm.trans hi)
   subst this;rw[ai C];exact⟨oj,g,v,hy _ U,H⟩
  ·have O:=H.2 j (ready_mono hj l) oj g
   obtain⟨A,z,ab,al⟩:=mem_ready.1 hj;have:z=oj:=Option.some.inj (ab.symm.trans g)
   subst this;have K:S j=true:=t j z g l fun e he hb=>hS _ (al e he hb)
   obtain⟨ax,B⟩:=M j z g K l A;rw[Array.setIfInBounds_comm _ _ (Ne.symm l)] at O;have W:∀k,(listed.setIfInBounds j true).getD k false=true->S k=true:=by
    intro k hk;by_cases r:j=k
    ·subst r;exact K
    ·rw[getD_set_ne false r] at hk;exact hS k hk
   have F:∀k ok,ops[k]? = some ok->S k=true->k≠i->(listed.setIfInBounds j true).getD k true=false->(gE qs ok.op<=1\/pr k=true)/\oi.apart ops ok=true:=by
    intro k ok hk a2 am ad;refine M k ok hk a2 am ?_
    by_cases r:j=k
    ·subst r;exact A
    ·rw[getD_set_ne true r] at ad;exact ad
   split
   ·rename_i hc0
    rw[ai hc0] at O;have h2:=rl g B (fun cs b=>p i oi cs b hi) (fun cs b=>p j z cs b g) (Y:=fun a=>∀q,Z q->ft P ops c q oi v a) (fun a a' y e w q hx=>(y q hx).of_same e w) hy O
    obtain⟨o,ho,u,a0,I,hK⟩:=h2;exact⟨o,ho,u,a0,ih _ _ h W F (ready_mono J (Ne.symm l)) U I hK⟩
   ·rename_i hc0
    rw[ah hc0] at O;have hp:pr j=true:=ax.resolve_left hc0
    intro w hc;refine wpOp_mono (fun a' w' h3=>?_) (BL g B (fun cs b=>p i oi cs b hi) (fun cs b=>p j z cs b g) (Y:=fun a=>∀q,Z q->ft P ops c q oi v a) (fun a a' y e w q hx=>(y q hx).of_same e w) hy (O w hc))
    obtain⟨I,q,aw,hx,hK⟩:=h3;exact⟨q,aw,hx,ih _ _ q W F (ready_mono J (Ne.symm l)) (a1 _ _ U (hx hp)) I hK⟩
def Gb (S g pr:Nat):Nat->List rm->Bool
 | _,[]=>true
 | j,e::r=>(!S.testBit j||g.testBit j||(Nat.ble e.c 1||pr.testBit j))&&Gb S g pr (j+1) r
theorem BN {S g pr:Nat} {E:List rm}:∀(k:Nat),Gb S g pr k E=true->∀j e,E[j]? = some e->S.testBit (k+j)=true->g.testBit (k+j)=false->e.c<=1\/pr.testBit (k+j)=true:=by
 induction E with
 | nil=>intro k _ j e l;simp at l
 | cons x E q =>
  intro k h j e l hs p;simp only[Gb,Bool.and_eq_true,Bool.or_eq_true,Bool.not_eq_true'] at h
  cases j with
  | zero =>
   simp only[List.getElem?_cons_zero,Option.some.injEq] at l
   subst l;rcases h.1 with(i|i)|i
   ·rw[Nat.add_zero] at hs;rw[hs] at i;cases i
   ·rw[Nat.add_zero] at p;rw[p] at i;cases i
   ·exact i.imp Nat.le_of_ble_eq_true fun h=>by rw[Nat.add_zero];exact h
  | succ j =>
   simp only[List.getElem?_cons_succ] at l
   rw[show k+(j+1)=k+1+j from aa] at hs p ⊢;exact q (k+1) h.2 j e l hs p
def Gc (i i2 g:Nat):Nat->List rm->Bool
 | _,[]=>true
 | j,e::r=>(Nat.beq j i||Nat.beq j i2||g.testBit j || !sub e.pm g)&&Gc i i2 g (j+1) r
theorem BO {i i2 g:Nat} {E:List rm}:∀(k:Nat),Gc i i2 g k E=true->∀j e,E[j]? = some e->g.testBit (k+j)=false->sub e.pm g=true->k+j=i\/k+j=i2:=by
 induction E with
 | nil=>intro k _ j e p;simp at p
 | cons x E r =>
  intro k h j e p q hs;simp only[Gc,Bool.and_eq_true,Bool.or_eq_true,Bool.not_eq_true'] at h
  cases j with
  | zero =>
   simp only[List.getElem?_cons_zero,Option.some.injEq] at p
   subst p;rcases h.1 with((l|l)|l)|l
   ·exact .inl (Nat.eq_of_beq_eq_true l)
   ·exact .inr (Nat.eq_of_beq_eq_true l)
   ·rw[Nat.add_zero] at q;rw[q] at l;cases l
   ·rw[hs] at l;cases l
  | succ j =>
   simp only[List.getElem?_cons_succ] at p
   rw[show k+(j+1)=k+1+j from aa] at q ⊢;exact r (k+1) h.2 j e p q hs
def Am (E:List rm) (h pr g i:Nat):Bool:=match E[i]? with
 | none=>false
 | some e=>!g.testBit i&&sub e.pm g&&(bif Nat.beq e.c 0 then true else bif h.testBit i then
   Nat.beq e.c 1&&(let S:=Ct i 0 E g;oG i S 0 E&&sub g S&&Gb S g pr 0 E)
   else tJ i g 0 E)
def kT:List Nat->Nat->Nat
 | [],mask=>mask
 | i::ord,mask=>kT ord (mask|||1<<<i)
def lM (E:List rm) (g pr:Nat):List Nat->Nat->Bool
 | [],_=>true
 | i::ord,mask=>Am E g pr mask i&&lM E g pr ord (mask|||1<<<i)
inductive OT
 | fin (A B:List Nat)
 | fk (A:List Nat) (i j:Nat) (t u:OT)
def OT.len:OT->Nat
 | .fin A B=>A.length+B.length
 | .fk A _ _ t u=>A.length+max t.len u.len
def OT.head:OT->Option Nat
 | .fin (i::_) _=>some i
 | .fk (i::_) _ _ _ _=>some i
 | _=>none
def Iy (E:List rm) (g i:Nat):Bool:=match E[i]? with
 | none=>false
 | some e=>!g.testBit i&&sub e.pm g
def qi (E:List rm) (pr:Nat) (g:Bool):List Nat->Nat->Bool
 | [],_=>!g
 | i::ord,mask=>(bif g then Iy E mask i else Am E 0 pr mask i)&&pr.testBit i&&lM E 0 pr ord (mask|||1<<<i)&&ord.all fun k=>pr.testBit k
def Gd (E:List rm) (pr:Nat):Bool->OT->Nat->Bool
 | br,.fin A B,mask=>qi E pr br A mask&&lM E 0 pr B (kT A mask)&&(B.all fun k=>!pr.testBit k)&&Nat.beq (kT B (kT A mask)) (2^E.length-1)
 | br,.fk A i j t u,mask=>qi E pr br A mask&&Gc i j (kT A mask) 0 E&&(t.head==some i)&&(u.head==some j)&&Gd E pr true t (kT A mask)&&Gd E pr true u (kT A mask)
def DQ (l:List Oper) (qs:List FuncId) (g pr:Nat) (h:List Nat) (T:OT):Bool :=
 let E:=l.map (dI l.toArray qs)
 Nat.ble (h.length+T.len) l.length&&Region.noSelect l.toArray&&fV 0 E&&lM E g pr h 0&&(h.all fun i=>match E[i]? with|some e=>Nat.ble e.c 1&&(Nat.beq e.c 0||g.testBit i)|none=>false)&&Gd E pr false T (kT h 0)
end
end Go.Eng
namespace Go.Eng
open Go
section
variable {P:Program} {c:World} {qs:List FuncId} {X:bJ->bJ->Prop}
theorem An {l:List Oper} {pr V:Nat} {QN:Act->bJ->Prop} {Z:bJ->Prop} (bm:∀h M,Z h->X h M->Z M) (Y:Region.noSelect l.toArray=true) (a6:fV 0 (l.map (dI l.toArray qs))=true)
  {i:Nat} {oi:Oper} (J:l[i]? = some oi) {g:Nat} {listed:Array Bool} (hs:nD l.length g listed) (q:Am (l.map (dI l.toArray qs)) V pr g i=true) {fuel:Nat} {a:Act} {h:bJ}
  (h0:gE qs oi.op=0->∃v,Yields P l.toArray oi v a/\qh P l.toArray c qs X (fun k=>pr.testBit k) QN fuel (listed.setIfInBounds i true) (a.put oi.dst v) h)
  (C:gE qs oi.op=1->V.testBit i=true->∃v,Z h/\(∀M,Z M->ft P l.toArray c M oi v a)/\qh P l.toArray c qs X (fun k=>pr.testBit k) QN fuel (listed.setIfInBounds i true) (a.put oi.dst v) h)
  (h2:¬gE qs oi.op=0->V.testBit i=false->if gE qs oi.op<=1 then GQ P l.toArray c h i (fun a'=>qh P l.toArray c qs X (fun k=>pr.testBit k) QN fuel (listed.setIfInBounds i true) a' h) a
   else ∀w,At c h w->wpOp P l.toArray jf i (fun a' w'=>∃M,At c M w'/\(pr.testBit i=true->X h M)/\qh P l.toArray c qs X (fun k=>pr.testBit k) QN fuel (listed.setIfInBounds i true) a' M) a w) :
  qh P l.toArray c qs X (fun k=>pr.testBit k) QN (fuel+1) listed a h:=by
 have hi:l.toArray[i]? = some oi:=by simpa using J
 have W:∀j o,l[j]? = some o->(l.map (dI l.toArray qs))[j]? = some (dI l.toArray qs o):=fun j o p=>by rw[List.getElem?_map,p];rfl
 unfold Am at q
 rw[W i oi J] at q
 simp only[Bool.and_eq_true,Bool.not_eq_true'] at q
 obtain⟨⟨a9,a0⟩,t⟩:=q
 have u:∀j o,l[j]? = some o->(j∈Region.ready .any l.toArray listed ↔ g.testBit j=false/\sub (fU o) g=true):=by
  intro j o p;rw[mem_ready];have bd:j<l.length:=(List.getElem?_eq_some_iff.1 p).1
  constructor
  ·rintro⟨C,o',bu,h2⟩;have:o'=o:=by
    have:l[j]? = some o':=by simpa using bu
    exact Option.some.inj (this.symm.trans p)
   subst this;refine⟨(hs.unlisted.1 C).2,fN.2 fun k hk=>?_⟩
   obtain⟨e,O,hb,rfl⟩:=(dp o' k).1 hk
   rw[<- hs.2];exact h2 e O hb
  ·rintro⟨C,h2⟩;refine⟨hs.unlisted.2 ⟨bd,C⟩,o,by simpa using p,fun e O hb=>?_⟩
   rw[hs.2];exact fN.1 h2 _ ((dp o e.on).2 ⟨e,O,hb,rfl⟩)
 have U:i∈Region.ready .any l.toArray listed:=(u i oi J).2 ⟨a9,a0⟩
 have z:∀j oj,l[j]? = some oj->j≠i->g.testBit j=false->(∀e∈oj.after,Region.binds .any e=true->e.on≠i)->oi.apart l.toArray oj=true:=by
  intro j oj p A r al;rcases Nat.lt_or_gt_of_ne A with a4|bb
  ·have hp:=gZ 0 a6 j i _ _ (W j oj p) (W i oi J) a4
   rw[Nat.zero_add] at hp;rcases jp hp with C|C
   ·exfalso
    have:=fN.1 a0 j C
    rw[r] at this;cases this
   ·exact C.2
  ·have hp:=gZ 0 a6 i j _ _ (W i oi J) (W j oj p) bb
   rw[Nat.zero_add] at hp;rcases jp hp with C|C
   ·exfalso
    obtain⟨e,O,hb,ad⟩:=(dp oj i).1 C
    exact al e O hb ad
   ·exact C.1
 by_cases hz:gE qs oi.op=0
 ·obtain⟨v,I,hK⟩:=h0 hz;refine yN hi Y aa fuel listed a h (fun j oj p A H al=>?_) U I hK
  exact z j oj (by simpa using p) A (hs.unlisted.1 H).2 al
 rw[show(dI l.toArray qs oi).c=gE qs oi.op from rfl] at t
 have bc:Nat.beq (gE qs oi.op) 0=false:=by
  cases hb:Nat.beq (gE qs oi.op) 0 with
  | false=>rfl
  | true=>exact absurd (Nat.eq_of_beq_eq_true hb) hz
 rw[bc,cond_false] at t
 cases hsb:V.testBit i with
 | true =>
  rw[hsb,cond_true] at t;simp only[Bool.and_eq_true] at t
  obtain⟨am,⟨a8,ax⟩,a1⟩:=t;have am:gE qs oi.op=1:=Nat.eq_of_beq_eq_true am
  obtain⟨v,bs,I,hK⟩:=C am hsb;refine BM (pr:=fun k=>pr.testBit k) bm hi Y aa (S:=fun j=>(Ct i 0 (l.map (dI l.toArray qs)) g).testBit j) ?_ fuel listed a h ?_ ?_ U bs I hK
  ·intro j oj p A ba;have:=oH 0 a8 j _ (W j oj (by simpa using p)) aa (fN.2 fun k hk=>by
    obtain⟨e,O,hb,rfl⟩:=(dp oj k).1 hk
    exact ba e O hb)
   simpa using this
  ·intro j p;rw[hs.2] at p;exact fN.1 ax j p
  ·intro j oj p hS A H;have F:l[j]? = some oj:=by simpa using p
   have r:=(hs.unlisted.1 H).2
   refine⟨by
    have h8:=BN 0 a1 j _ (W j oj F) (by rw[Nat.zero_add];exact hS) (by rw[Nat.zero_add];exact r)
    rw[Nat.zero_add] at h8;exact h8,?_⟩
   refine z j oj F A r fun e O hb ad=>?_
   have bt:∀k,(Ct i 0 (l.map (dI l.toArray qs)) g).testBit k=true->g.testBit k=true\/∃o,l[k]? = some o/\k≠i/\∃S',sub (fU o) S'=true/\S'.testBit i=g.testBit i:=by
    have key:∀(E:List rm) (k S:Nat),(∀x,E[x]? = (l.map (dI l.toArray qs))[k+x]?)->S.testBit i=g.testBit i->∀y,(Ct i k E S).testBit y=true->S.testBit y=true\/∃o,l[y]? = some o/\y≠i/\∃S',sub (fU o) S'=true/\S'.testBit i=g.testBit i:=by
     intro E
     induction E with
     | nil=>intro k S _ _ y I;exact .inl I
     | cons e E a5 =>
      intro k S hx ab y I;simp only[Ct] at I
      have B:=hx 0
      simp only[List.getElem?_cons_zero,Nat.add_zero,List.getElem?_map] at B
      have a3:∀x,E[x]? = (l.map (dI l.toArray qs))[k+1+x]? := fun x=>by
       have:=hx (x+1)
       simp only[List.getElem?_cons_succ] at this
       rw[this,show k+(x+1)=k+1+x from aa]
      cases hcond:(!Nat.beq k i&&sub e.pm S) with
      | false =>
       rw[hcond] at I;exact a5 (k+1) S a3 ab y I
      | true =>
       rw[hcond] at I;simp only[Bool.and_eq_true,Bool.not_eq_true'] at hcond
       have a2:k≠i:=fun e=>by rw[e,Nat.beq_refl] at hcond;cases hcond.1
       have a7:(S|||1<<<k).testBit i=g.testBit i:=by rw[ey,ab];simp[a2]
       rcases a5 (k+1) _ a3 a7 y I with K|K
       ·rw[ey,Bool.or_eq_true,decide_eq_true_eq] at K;rcases K with K|K
        ·exact .inl K
        ·subst K
         right
         cases hlk:l[k]? with
         | none=>rw[hlk] at B;cases B
         | some o =>
          rw[hlk] at B;simp only[Option.map_some,Option.some.injEq] at B
          subst B;exact⟨o,rfl,a2,S,hcond.2,ab⟩
       ·exact .inr K
    exact fun k hk=>key _ 0 g (fun x=>by rw[Nat.zero_add]) rfl k hk
   rcases bt j hS with h6|⟨o,ho,_,S',be,bo⟩
   ·rw[r] at h6;cases h6
   ·have:o=oj:=Option.some.inj (ho.symm.trans F)
    subst this;have h7:=fN.1 be i ((dp o i).2 ⟨e,O,hb,ad⟩)
    rw[bo,a9] at h7;cases h7
 | false =>
  rw[hsb,cond_false] at t;refine⟨fun bq=>(by rw[bq] at U;cases U),fun j p oj br=>?_⟩
  obtain⟨h3,o,ho,_⟩:=mem_ready.1 p;have F:l[j]? = some o:=by simpa using ho
  obtain⟨h4,K⟩:=(u j o F).1 p
  have aw:=rO 0 t j _ (W j o F) (by simpa using h4) K
  rw[Nat.zero_add] at aw;subst aw;have:oj=oi:=Option.some.inj (br.symm.trans hi)
  subst this;exact h2 hz hsb
end
end Go.Eng
