/- Texts 33. -/
import Derived.Test.YtogmacnlpclgkaaGreatDoorX32
set_option linter.all false
namespace Go.Proofs.YtogmacnlpclgkaaGreatDoor
open Go Go.Eng Go.Pz
attribute [local irreducible] RO J av aO
set_option maxRecDepth 20000
variable {G:ao} {d:Nat->Nat}
def A3 (v:Nat->Nat):bk:=aj [.int .i64 (v 0:Nat),.int .i64 (v 1:Nat),.int .i64 (v 2:Nat)] 104
theorem uC (v:Nat->Nat):A3 v=aj [.int .i64 (v 0:Nat),.int .i64 (v 1:Nat),.int .i64 (v 2:Nat)] 104:=rfl
theorem xD (v:Nat->Nat) {k:Nat} (h:k<=2):0+k<(A3 v).n:=by show 0+k<3;omega
theorem Ea (v:Nat->Nat) {k:Nat} (h:k<=2):(A3 v).g (0+k) = .int .i64 (v k:Nat):=by
 match k,h with
 | 0,_=>rfl
 | 1,_=>rfl
 | 2,_=>rfl
theorem Eb (v:Nat->Nat) {k:Nat} (h:k<=2) (y:Nat):((A3 v).st (0+k) (ay y)).obj=(A3 (cV v k y)).obj:=by
 match k,h with
 | 0,_=>exact aW rfl rfl rfl rfl
 | 1,_=>exact aW rfl rfl rfl rfl
 | 2,_=>exact aW rfl rfl rfl rfl
theorem Ec (v:Nat->Nat):(A3 v).fr=(0,0):=rfl
def L3 (v:Nat->Nat):bk:=aj [.int .i64 (v 0:Nat),.int .i64 (v 1:Nat),.int .i64 (v 2:Nat)] 3
theorem Ed (v:Nat->Nat):L3 v=aj [.int .i64 (v 0:Nat),.int .i64 (v 1:Nat),.int .i64 (v 2:Nat)] 3:=rfl
theorem IE (v:Nat->Nat) {k:Nat} (h:k<=2):0+k<(L3 v).n:=by show 0+k<3;omega
theorem IF (v:Nat->Nat) {k:Nat} (h:k<=2):(L3 v).g (0+k) = .int .i64 (v k:Nat):=by
 match k,h with
 | 0,_=>rfl
 | 1,_=>rfl
 | 2,_=>rfl
attribute [local irreducible] A3 L3
def JC (G:ao) (T:dV) (p:Option Addr):Prop:=∃pb tb g,p=some ⟨pb,0,none⟩/\(pb,ir tb (2^T.log) T.log)∈G/\(tb,g)∈G/\DP g (2^T.log) T.sym T.bits T.base
structure xE (kind:Nat) (T:dV):Prop where
 log:T.log<=9
 sym:∀p,p<2^T.log->T.sym p<=dF kind
 next:∀p,p<2^T.log->T.base p+2^T.bits p<=2^T.log
theorem xE.bits {kind:Nat} {T:dV} (h:xE kind T) {p:Nat} (g:p<2^T.log):T.bits p<=9/\T.base p<=2^9:=by
 have i:=h.next p g
 have k:T.bits p<=T.log:=(Nat.pow_le_pow_iff_right (by omega:1<2)).1 aa
 have j:=h.log
 have l:2^T.log<=2^9:=Nat.pow_le_pow_right aa j
 have q:=Nat.le_trans (Nat.le_add_right _ _) i
 exact⟨aa,aa⟩
def TT (T0 T1 T2:dV) (k:Nat):dV:=if k=0 then T0 else if k=1 then T1 else T2
def Ee (b:Nat->Nat) (l:Int):Nat->Int
 | 0=>l
 | j+1=>Ee b l j-(b j:Nat)
theorem vP {b:Nat->Nat} {l:Int} {B:Nat} (h:∀j,b j<=B):∀j,Ee b l j<=l/\l-j*B<=Ee b l j
 | 0=>⟨Int.le_refl _,by show l-((0:Nat):Int)*B<=l;omega⟩
 | j+1=>by
  obtain⟨p,g⟩:=vP h (l:=l) j
  have i:=h j
  have k:Ee b l (j+1)=Ee b l j-(b j:Nat):=rfl
  have q:((j+1:Nat):Int)*(B:Int)=(j:Int)*B+B:=by rw[Int.natCast_add,Int.add_mul];simp
  omega
def iK (j:Nat):Nat:=if j=0 then 1 else if j=1 then 2 else 0
def jY (j:Nat):Nat:=if j=0 then 0 else if j=1 then 2 else 1
theorem Aw (j:Nat):iK j<=2:=by unfold iK;split<;>(try split)<;>omega
theorem Ax (j:Nat):jY j<=2:=by unfold jY;split<;>(try split)<;>omega
theorem Ef {i j:Nat} (hi:i<=2) (g:j<=2) (h:iK i=iK j):i=j:=by
 unfold iK at h
 split at h<;>(try split at h)<;>(try split at h)<;>(try split at h)<;>omega
theorem xF {i j:Nat} (hi:i<=2) (g:j<=2) (h:jY i=jY j):i=j:=by
 unfold jY at h
 split at h<;>(try split at h)<;>(try split at h)<;>(try split at h)<;>omega
theorem B9 {kind c:Nat} (k:kind<=2) (g:c<=dF kind):(gv kind c).1<=2^31/\(gv kind c).2<=31/\(kind=1->1<=(gv kind c).1):=by
 have i:kind=0\/kind=1\/kind=2:=aa
 rcases i with rfl|rfl|rfl
 ·have:∀c,c<=35->(gv 0 c).1<=2^31/\(gv 0 c).2<=31:=by decide
  exact⟨(this c g).1,(this c g).2,fun h=>aa⟩
 ·have j:2^c<=2^31:=Nat.pow_le_pow_right aa g
  exact⟨j,g,fun _=>Nat.two_pow_pos c⟩
 ·have:∀c,c<=52->(gv 2 c).1<=2^31/\(gv 2 c).2<=31:=by decide
  exact⟨(this c g).1,(this c g).2,fun h=>aa⟩
def Kf (sb:Nat) (x:SB) (r:Ve SS) (v:Value) (m:ao):Prop:=match r with
 | .op=>v = .int .i64 0
 | .wr=>v = .int .i64 2
 | .ok s=>v = .int .i64 1/\((1<=s.o1/\s.o1<=2^40)/\(1<=s.o2/\s.o2<=2^40)/\(1<=s.o3/\s.o3<=2^40))/\∃oa cp g,m=(sb,dW { x with oa:=oa,ol:=s.ol,cp:=cp,o1:=s.o1,o2:=s.o2,o3:=s.o3 })::g/\dH 1 (.slice oa s.ol cp) s.ol (dw s.out) g
theorem Gm (v:Nat) (nn:Bool) (o1 o2 o3:Nat):(sOff v nn o1 o2 o3).2.1=(sOff v nn o1 o2 o3).1/\((sOff v nn o1 o2 o3).2.2.1=o1\/(sOff v nn o1 o2 o3).2.2.1=o2)/\((sOff v nn o1 o2 o3).2.2.2=o2\/(sOff v nn o1 o2 o3).2.2.2=o3):=by
 unfold sOff
 by_cases h:3<v
 ·rw[ai h];exact⟨rfl,.inl rfl,.inl rfl⟩
 rw[ah h]
 dsimp only
 generalize v-1+(if nn=true then 1 else 0)=k
 by_cases g:k=1
 ·rw[ai g];exact⟨rfl,.inl rfl,.inr rfl⟩
 by_cases i:k=2
 ·rw[ah g,ai i];exact⟨rfl,.inl rfl,.inl rfl⟩
 by_cases j:k=3
 ·rw[ah g,ah i,ai j];exact⟨rfl,.inl rfl,.inl rfl⟩
 ·rw[ah g,ah i,ah j];exact⟨rfl,.inr rfl,.inr rfl⟩
def vQ (s:SS) (T0 T1 T2:dV) (most:Nat) (TX:Nat->Nat) (tl:Nat) (x:SQ):Ve SS :=
 if x.a≠0 then .op
 else if most<x.ol+(tl-x.lo)-s.ol then .op
 else .ok { s with out:=fj x.out x.ol (tl-x.lo) fun i=>TX (x.lo+i),ol:=x.ol+(tl-x.lo),t0:=some T0,t1:=some T1,t2:=some T2,o1:=x.o1,o2:=x.o2,o3:=x.o3 }
structure Ks where
 k:Nat
 q:SQ
 l:Int
 ta:Option Addr
 tc:Nat
 oa:Option Addr
 cp:Nat
 om:ao
 j:ao
def ja (q:SQ) (k:Nat):Nat:=if k=0 then q.s0 else if k=1 then q.s1 else q.s2
abbrev xG (x:SB) (q:SQ) (oa:Option Addr) (cp:Nat):SB:={ x with oa:=oa,ol:=q.ol,cp:=cp,o1:=q.o1,o2:=q.o2,o3:=q.o3 }
structure KG (G:ao) (s:SS) (T0 T1 T2:dV) (x:SB) (d:Nat->Nat) (N cnt:Nat) (TX:Nat->Nat) (tl:Nat) (E:Ve SS) (t:Ks):Prop where
 k:t.k<cnt
 lo:t.q.lo<=tl
 ol:t.q.ol<=s.ol+x.most
 og:s.ol<=t.q.ol
 o1:1<=t.q.o1/\t.q.o1<=2^40
 o2:1<=t.q.o2/\t.q.o2<=2^40
 o3:1<=t.q.o3/\t.q.o3<=2^40
 st:∀i,i<=2->ja t.q i<2^(TT T0 T1 T2 i).log
 tx:aU G t.ta (tl-t.q.lo) t.tc (aX TX t.q.lo)
 sl:dH 1 (.slice t.oa t.q.ol t.cp) t.q.ol (dw t.q.out) t.om
 l1:t.l<=8*N
 l2 : -(2^40)<=t.l
 e:(0<=t.l/\E=(ip T0 T1 T2 d x.win x.most s.ol TX tl (cnt-t.k) { t.q with a:=t.l.toNat }).bind (vQ s T0 T1 T2 x.most TX tl))\/(t.l<0/\E = .wr)
set_option maxHeartbeats 2000000 in
theorem xH (sb:Nat) (x:SB) (s:SS) (T0 T1 T2:dV) (hI:∀k,k<=2->JC G (TT T0 T1 T2 k) (x.tp k)) (hK:∀k,k<=2->xE k (TT T0 T1 T2 k)) (om:ao) (fb:x.ol=s.ol) (hX:x.o1=s.o1) (hP:x.o2=s.o2) (h8:x.o3=s.o3)
  (fk:dH 1 (.slice x.oa s.ol x.cp) s.ol (dw s.out) om) (j1:s.ol<=2^30) (j0:x.most<=2^20) (h1:1<=s.o1/\s.o1<=2^40) (h2:1<=s.o2/\s.o2<=2^40) (h3:1<=s.o3/\s.o3<=2^40)
  (ta:Option Addr) (tl tc:Nat) (TX:Nat->Nat) (h5:aU G ta tl tc TX) (j4:tl<=2^20) (cnt:Nat) (il:1<=cnt) (jn:cnt<=2^20)
  (U:Option Addr) (N cp:Nat) (hd:∀i,d i<256) (hv:aU G U N cp d) (hN:N<=2^30) :
  av Tryz.prog G 53 #[bf sb,.slice ta tl tc,ay cnt,.slice U N cp] ((sb,dW x)::om) (Kf sb x (iw s T0 T1 T2 x.win x.most d N cnt TX tl)):=by
 refine bE Tryz.func53 fun c0 h0 hex=>?_
 obtain⟨E,hE⟩:∃E,E=iw s T0 T1 T2 x.win x.most d N cnt TX tl:=⟨_,rfl⟩
 rw[<- hE]
 unfold iw at hE
 refine go ?_
 refine ac rfl (fun hz=>?_) (fun hz=>?_)
 ·rw[ai aa] at hE;subst hE;refine go ?_;exact af (bx [8] rfl)
 rw[ah aa] at hE
 refine go ?_
 refine ar (oq U N cp hd hv aa) ?_ (fm:=(sb,dW x)::om) (hs:=.of_perm an)
 intro v m c5
 by_cases a5:d (N-1)=0
 ·rw[ai (.inr a5)] at c5;rw[ai a5] at hE;subst c5 hE
  refine go ?_;exact af (bx [8] rfl)
 rw[ah aa] at c5
 rw[ah a5] at hE
 obtain⟨M,rfl,rfl⟩:=c5
 obtain⟨l0,d3⟩:∃l0,l0=dU d (N-1):=⟨_,rfl⟩
 have iz:l0<=8*N:=by
  rw[d3];unfold dU;have h1:d (N-1)<256:=hd _
  have:=(Nat.log2_lt (n:=d (N-1)) (k:=8) a5).2 h1
  omega
 rw[<- d3] at hE ⊢
 clear d3 a5
 dsimp only at hE
 refine go ?_
 refine aC z104 rfl hex fun K es=>?_
 refine bj (m':=(K,A3 fun _=>0)::((sb,dW x)::om++[(M,cI U N cp (l0:Nat))])) (.cons (by rw[uC];rfl) (.refl _)) ?_
 obtain⟨T,hT⟩:∃T,T=TT T0 T1 T2:=⟨_,rfl⟩
 rw[<- hT] at hI hK
 have cS:T 0=T0:=by rw[hT];rfl
 have dc:T 1=T1:=by rw[hT];rfl
 have cx:T 2=T2:=by rw[hT];rfl
 obtain⟨lv,dl⟩:∃lv,lv=Ee (fun j=>if j<=2 then(T j).log else 0) (l0:Nat):=⟨_,rfl⟩
 have dm:∀j,lv j<=l0/\(l0:Int)-j*9<=lv j:=by
  rw[dl];exact vP (B:=9) fun j=>by
   split
   ·exact(hK j aa).log
   ·omega
 have cn:∀j,j<=2->lv (j+1)=lv j-((T j).log:Nat):=fun j hj=>by
  rw[dl];show Ee _ _ j-(((if j<=2 then(T j).log else 0):Nat):Int)=_
  rw[ai hj]
 have ds:lv 0=l0:=by rw[dl];rfl
 clear dl
 refine go ?_
 refine aH (σ:=Nat×(Nat->Nat)) [] (fun t=>[(0,bf sb),(1,.slice ta tl tc),(2,ay cnt),(9,bf M),(11,ay s.ol),(12,bf K),(38,ay t.1)]) (fun t=>(M,cI U N cp (lv t.1))::(K,A3 t.2)::(sb,dW x)::om) (fun t=>t.1<=3/\∀i,i<t.1->t.2 i=kQ d (lv i) (T i).log) (fun t=>3-t.1) (0,fun _=>0) (by rw[ds];exact .of_perm an) ⟨Nat.zero_le _,fun i h=>absurd h (Nat.not_lt_zero _)⟩ ?_
  (vals:=[]) (hf:=⟨rfl,rfl,rfl,rfl,by rw[<- fb];rfl,rfl,rfl,trivial⟩)
 rintro⟨k,v⟩ f ⟨h4,ba⟩
 dsimp only at h4 ba ⊢
 refine go ?_
 refine ac rfl (fun d8=>?_) (fun er=>?_)
 ·have a9:k<=2:=aa
  obtain⟨pb,tb,TB,hp,b7,c6,hg⟩:=hI k a9;have jl:=(hK k a9).log
  have a6:=vO x a9
  rw[hp] at a6;refine go ?_;refine aF (v:=bf pb) rfl rfl (.there (.there .here)) (oz x a9) a6 rfl ?_
  refine go ?_;refine aK (v:=.int .i64 ((T k).log:Nat)) rfl rfl (List.mem_append.2 (.inr b7)) (by show 0+1<2;decide) rfl rfl ?_
  refine go ?_;obtain⟨b1,b2⟩:=dm k;refine ae (nt M U N cp hd hv aa (lv k) aa aa (T k).log aa) ?_ (fm:=(K,A3 v)::(sb,dW x)::om) (hs:=.refl _)
  rintro w m ⟨rfl,rfl⟩;refine go ?_;refine bD (B:=A3 v) (v:=.int .i64 ((kQ d (lv k) (T k).log:Nat):Int)) rfl rfl rfl rfl (.there .here) (xD v a9) (Ec v) hex ?_
  refine go ?_;refine⟨(k+1,cV v k (kQ d (lv k) (T k).log)),by dsimp only;omega,⟨by dsimp only;omega,fun i hi=>?_⟩,cF,?_⟩
  ·dsimp only at hi ⊢;by_cases he:i=k
   ·rw[he,bL]
   ·rw[bz _ _ _ _ he];exact ba i aa
  ·dsimp only;rw[cn k a9];exact .skip (.cons (Eb v a9 _) (.refl _))
 ·obtain rfl:k=3:=aa;obtain⟨b1,b2⟩:=dm 3;have e0:lv 1=lv 0-((T 0).log:Nat):=cn 0 aa
  have e1:lv 2=lv 1-((T 1).log:Nat):=cn 1 aa
  have e2:lv 3=lv 2-((T 2).log:Nat):=cn 2 aa
  have a0:=ba 0 aa
  have a1:=ba 1 aa
  have a2:=ba 2 aa
  have cb:E=if l0<T0.log+T1.log+T2.log then .wr else(ip T0 T1 T2 d x.win x.most s.ol TX tl cnt ⟨s.out,s.ol,0,s.o1,s.o2,s.o3,l0-T0.log-T1.log-T2.log,aq d (l0-T0.log) T0.log,aq d (l0-T0.log-T1.log) T1.log,aq d (l0-T0.log-T1.log-T2.log) T2.log⟩).bind (vQ s T0 T1 T2 x.most TX tl):=hE
  clear hE;rw[cS] at e0 a0;rw[dc] at e1 a1;rw[cx] at e2 a2;rw[ds] at e0 a0;have fd:∀i,i<=2->v i<2^(T i).log:=fun i hi=>by rw[ba i aa];exact fC _ _ _
  refine go ?_;refine aH (σ:=Ks) [] (fun t=>[(0,bf sb),(1,.slice t.ta (tl-t.q.lo) t.tc),(2,ay cnt),(9,bf M),(11,ay s.ol),(12,bf K),(55,ay cnt),(56,ay t.k)])
   (fun t=>(sb,dW (xG x t.q t.oa t.cp))::(M,cI U N cp t.l)::(K,A3 (ja t.q))::(t.om++t.j))
   (KG G s T0 T1 T2 x d N cnt TX tl E) (fun t=>cnt-t.k) ⟨0,⟨s.out,s.ol,0,s.o1,s.o2,s.o3,0,v 0,v 1,v 2⟩,lv 3,ta,tc,x.oa,x.cp,om,[]⟩ ?_ ?_ ?_
  ·have hA:A3 (ja ⟨s.out,s.ol,0,s.o1,s.o2,s.o3,0,v 0,v 1,v 2⟩)=A3 v:=by rw[uC,uC];rfl
   have hB:xG x ⟨s.out,s.ol,0,s.o1,s.o2,s.o3,0,v 0,v 1,v 2⟩ x.oa x.cp=x:=by
    show SB.mk x.oa s.ol x.cp x.win x.most x.tr x.t0 x.t1 x.t2 s.o1 s.o2 s.o3=x
    rw[<- fb,<- hX,<- hP,<- h8]
   dsimp only;rw[hA,hB];exact .of_perm an
  ·refine⟨il,Nat.zero_le _,Nat.le_add_right _ _,aZ _,h1,h2,h3,fun i hi=>?_,?_,fk,by dsimp only;omega,by dsimp only;omega,?_⟩
   ·have:=fd i hi
    rw[hT] at this;have cu:i=0\/i=1\/i=2:=aa
    rcases cu with rfl|rfl|rfl<;>exact this
   ·dsimp only;rw[Nat.sub_zero];exact h5.congr fun i _=>by unfold aX;rw[Nat.zero_add]
   ·dsimp only;by_cases ca:l0<T0.log+T1.log+T2.log
    ·right
     rw[ai ca] at cb;exact⟨aa,cb⟩
    ·left
     rw[ah ca] at cb;refine⟨aa,?_⟩
     have f0:v 0=aq d (l0-T0.log) T0.log:=by rw[a0,iJ _ _ _ aa]
     have f1:v 1=aq d (l0-T0.log-T1.log) T1.log:=by rw[a1,e0,show((l0:Nat):Int)-(T0.log:Nat)=((l0-T0.log:Nat):Int) from aa,iJ _ _ _ aa]
     have f2:v 2=aq d (l0-T0.log-T1.log-T2.log) T2.log:=by rw[a2,e1,e0,show((l0:Nat):Int)-(T0.log:Nat)-(T1.log:Nat)=((l0-T0.log-T1.log:Nat):Int) from aa,iJ _ _ _ aa]
     rw[f0,f1,f2,show(lv 3).toNat=l0-T0.log-T1.log-T2.log from aa,Nat.sub_zero];exact cb
  clear cb fd a0 a1 a2 e0 e1 e2 b1 b2 ba dm cn fk;rintro⟨k,q,l,ta,tc,oa,cq,om,j⟩ f ⟨ik,hF,hQ,hW,d7,h6,hV,cw,c8,d2,ff,hw,I⟩;dsimp only at ik hF hQ hW d7 h6 hV cw c8 d2 ff hw I ⊢;refine go ?_;refine ac rfl (fun _=>?_) (fun h=>absurd h aa)
  refine go ?_;refine aC z104 rfl hex fun vb c7=>?_
  refine bj (m':=(vb,A3 fun _=>0)::((sb,dW (xG x q oa cq))::(M,cI U N cp l)::(K,A3 (ja q))::(om++j))) (.cons (by rw[uC];rfl) (.refl _)) ?_
  refine go ?_;refine au (z:=.int .i64 0) (vs:=[.int .i64 1,.int .i64 2,.int .i64 0]) rfl rfl z3 rfl rfl rfl rfl hex fun lb dm=>?_
  refine bj (m':=(lb,L3 iK)::(vb,A3 fun _=>0)::((sb,dW (xG x q oa cq))::(M,cI U N cp l)::(K,A3 (ja q))::(om++j))) (.cons (by rw[Ed];rfl) (.refl _)) ?_
  obtain⟨C,b6⟩:∃C:Nat->Nat×Nat,C=fun i=>gv i ((T i).sym (ja q i)):=⟨_,rfl⟩
  have a7:∀i,i<=2->(C i).1<=2^31/\(C i).2<=31/\(i=1->1<=(C i).1):=fun i hi=>by
   rw[b6];exact B9 hi ((hK i hi).sym _ (by rw[hT];exact cw i hi))
  obtain⟨F,a3⟩:∃F,F=Ee (fun j=>if j<=2 then(C (iK j)).2 else 0) l:=⟨_,rfl⟩
  have b3:∀j,F j<=l/\l-j*31<=F j:=by
   rw[a3];exact vP (B:=31) fun j=>by
    split
    ·exact(a7 _ (Aw j)).2.1
    ·omega
  have aw:∀j,j<=2->F (j+1)=F j-((C (iK j)).2:Nat):=fun j hj=>by
   rw[a3];show Ee _ _ j-(((if j<=2 then(C (iK j)).2 else 0):Nat):Int)=_
   rw[ai hj]
  have bt:F 0=l:=by rw[a3];rfl
  clear a3;refine go ?_;refine aH (σ:=Nat×(Nat->Nat)×ao) [] (fun t=>[(0,bf sb),(1,.slice ta (tl-q.lo) tc),(2,ay cnt),(9,bf M),(11,ay s.ol),(12,bf K),(14,ay k),(15,bf vb),(55,ay cnt),(56,ay k),(59,.slice (bi lb) 3 3),(60,.int .i64 3),(61,ay t.1)])
   (fun t=>(M,cI U N cp (F t.1))::(vb,A3 t.2.1)::(K,A3 (ja q))::(lb,L3 iK)::(sb,dW (xG x q oa cq))::(om++(t.2.2++j))) (fun t=>t.1<=3/\∀i,i<t.1->t.2.1 (iK i)=(C (iK i)).1+kQ d (F i) (C (iK i)).2) (fun t=>3-t.1) (0,fun _=>0,[]) (by rw[bt];exact .of_perm an) ⟨Nat.zero_le _,fun i h=>absurd h (Nat.not_lt_zero _)⟩ ?_
  rintro⟨i,v2,jk⟩ f ⟨cu,bv⟩;dsimp only at cu bv ⊢;refine go ?_;refine ac rfl (fun d8=>?_) (fun er=>?_)
  ·have cN:i<=2:=aa
   have H:=Aw i
   obtain⟨kd,am⟩:∃kd,kd=iK i:=⟨_,rfl⟩
   have ad:=IF iK cN
   rw[<- am] at H ad;obtain⟨pb,tb,TB,hp,b7,c6,hC,hZ⟩:=hI kd H;have a6:=vO (xG x q oa cq) H
   rw[show(xG x q oa cq).tp kd=some ⟨pb,0,none⟩ from hp] at a6;have eB:ja q kd<2^(T kd).log:=by rw[hT];exact cw kd H
   have hh:0+ja q kd*(2+1)+0<TB.n:=aa
   have hm:TB.g (0+ja q kd*(2+1)+0) = .int .i64 ((T kd).sym (ja q kd):Nat):=by rw[show 0+ja q kd*(2+1)+0=ja q kd*3 from aa];exact(hZ _ eB).1
   clear hC;refine go ?_;refine aF (v:=ay kd) rfl rfl (.there (.there (.there .here))) (IE iK cN) ad rfl ?_
   refine go ?_;refine aF (v:=bf pb) rfl rfl (.there (.there (.there (.there .here)))) (oz _ H) a6 rfl ?_
   refine go ?_;refine aK (v:=.slice (bi tb) (2^(T kd).log) (2^(T kd).log)) rfl rfl (List.mem_append.2 (.inr b7)) (by show 0+0<2;decide) rfl rfl ?_
   refine go ?_;refine aF (v:=.int .i64 (ja q kd:Nat)) rfl rfl (.there (.there .here)) (xD _ H) (Ea _ H) rfl ?_
   refine go ?_;refine aK (v:=.int .i64 ((T kd).sym (ja q kd):Nat)) rfl rfl (List.mem_append.2 (.inr c6)) hh hm rfl ?_
   refine go ?_;refine ar (Iz kd ((T kd).sym (ja q kd)) H ((hK kd H).sym _ eB)) ?_ (fm:=(M,cI U N cp (F i))::(vb,A3 v2)::(K,A3 (ja q))::(lb,L3 iK)::(sb,dW (xG x q oa cq))::(om++(jk++j))) (hs:=.of_perm an)
   rintro w m ⟨rfl,rfl⟩;rw[List.append_nil];have ic:gv kd ((T kd).sym (ja q kd))=C kd:=by rw[b6]
   rw[ic];obtain⟨c1,c2,c3⟩:=a7 kd H;obtain⟨b1,b2⟩:=b3 i;refine go ?_;refine ae (nt M U N cp hd hv aa (F i) aa aa (C kd).2 aa) ?_ (fm:=(vb,A3 v2)::(K,A3 (ja q))::(lb,L3 iK)::(sb,dW (xG x q oa cq))::(om++(jk++j))) (hs:=.refl _)
   rintro w m ⟨rfl,rfl⟩;have j6:=fC d (F i) (C kd).2
   have i9:2^(C kd).2<=2^31:=Nat.pow_le_pow_right aa c2
   refine go ?_;refine bD (B:=A3 v2) (v:=.int .i64 (((C kd).1+kQ d (F i) (C kd).2:Nat):Int)) rfl rfl rfl rfl (.there .here) (xD v2 H) (Ec v2) hex ?_
   refine go ?_;refine⟨(i+1,cV v2 kd ((C kd).1+kQ d (F i) (C kd).2),jk),by dsimp only;omega,⟨by dsimp only;omega,fun i' b8=>?_⟩,cF,?_⟩
   ·dsimp only at b8 ⊢;by_cases he:i'=i
    ·rw[he,<- am,bL]
    ·rw[bz _ _ _ _ (fun h=>he (Ef aa cN (h.trans am)))];exact bv i' aa
   ·dsimp only;rw[aw i cN,<- am];exact .skip (.cons (Eb v2 H _) (.refl _))
  ·obtain rfl:i=3:=aa;obtain⟨b1,b2⟩:=b3 3;have e0:F 1=F 0-((C 1).2:Nat):=aw 0 aa
   have e1:F 2=F 1-((C 2).2:Nat):=aw 1 aa
   have e2:F 3=F 2-((C 0).2:Nat):=aw 2 aa
   have a1:v2 1=(C 1).1+kQ d (F 0) (C 1).2:=bv 0 aa
   have a2:v2 2=(C 2).1+kQ d (F 1) (C 2).2:=bv 1 aa
   have a0:v2 0=(C 0).1+kQ d (F 2) (C 0).2:=bv 2 aa
   have g1:gv 1 (T1.sym q.s1)=C 1:=by rw[b6,<- dc];rfl
   have g2:gv 2 (T2.sym q.s2)=C 2:=by rw[b6,<- cx];rfl
   have g0:gv 0 (T0.sym q.s0)=C 0:=by rw[b6,<- cS];rfl
   rw[bt] at e0 a1;obtain⟨r,hr⟩:∃r,cnt-k=r+1:=⟨cnt-k-1,aa⟩
   rw[hr,ip] at I;have br:∀i,i<=2->v2 i<=2^32:=fun i hi=>by
    have cu:i=0\/i=1\/i=2:=aa
    have eh:∀k,k<=2->2^(C k).2<=2^31:=fun k hk=>Nat.pow_le_pow_right aa (a7 k hk).2.1
    rcases cu with rfl|rfl|rfl
    ·rw[a0];have:=fC d (F 2) (C 0).2;have:=eh 0 aa;have:=(a7 0 aa).1;omega
    ·rw[a1];have:=fC d l (C 1).2;have:=eh 1 aa;have:=(a7 1 aa).1;omega
    ·rw[a2];have:=fC d (F 1) (C 2).2;have:=eh 2 aa;have:=(a7 2 aa).1;omega
   have gs:1<=v2 1:=by rw[a1];have:=(a7 1 aa).2.2 rfl;omega
   refine go ?_;refine ac rfl (fun ca=>?_) (fun fl=>?_)
   ·have V:E = .wr:=by
     rcases I with⟨h,he⟩|⟨_,he⟩
     ·rw[he];unfold ko;dsimp only;rw[g1,g2,g0,ai aa]
      rfl
     ·exact he
    subst V;refine go ?_;exact af (bx [8] rfl)
   obtain⟨A,hA⟩:∃A:Nat,l=(A:Nat):=⟨l.toNat,aa⟩
   subst hA;have I:=(I.resolve_right (fun h=>aa)).2
   unfold ko at I;dsimp only at I;rw[g1,g2,g0,Int.toNat_natCast,ah aa] at I;have w1:(C 1).1+aq d (A-(C 1).2) (C 1).2=v2 1:=by rw[a1,iJ _ _ _ aa]
   have w2:(C 2).1+aq d (A-(C 1).2-(C 2).2) (C 2).2=v2 2:=by rw[a2,e0,show((A:Nat):Int)-((C 1).2:Nat)=((A-(C 1).2:Nat):Int) from aa,iJ _ _ _ aa]
   have w0:(C 0).1+aq d (A-(C 1).2-(C 2).2-(C 0).2) (C 0).2=v2 0:=by rw[a0,e1,e0,show((A:Nat):Int)-((C 1).2:Nat)-((C 2).2:Nat)=((A-(C 1).2-(C 2).2:Nat):Int) from aa,iJ _ _ _ aa]
   obtain⟨B,hB⟩:∃B,B=A-(C 1).2-(C 2).2-(C 0).2:=⟨_,rfl⟩
   have e9:F 3=(B:Nat):=aa
   rw[w1,w2,w0,<- hB] at I;rw[e9] at fl ⊢;have i6:B<=8*N:=aa
   clear w0 w1 w2 a0 a1 a2 e0 e1 e2 b1 b2 g0 g1 g2 hB e9 b3 aw bt bv a7 b6 ff hw F C;refine go ?_;have iq:=br 0 aa
   have i2:=br 1 aa
   have it:=br 2 aa
   have cr:(A3 v2).g (0+0) = .int .i64 (v2 0:Nat):=Ea v2 aa
   have ld1:(A3 v2).g (0+1) = .int .i64 (v2 1:Nat):=Ea v2 aa
   have eq:(A3 v2).g (0+2) = .int .i64 (v2 2:Nat):=Ea v2 aa
   have e3:=xD v2 (k:=0) aa
   have fn:=xD v2 (k:=1) aa
   have hu:=xD v2 (k:=2) aa
   obtain⟨VB,eL⟩:∃VB,VB=A3 v2:=⟨_,rfl⟩
   rw[<- eL] at cr ld1 eq e3 fn hu ⊢;clear eL br;generalize v2 0=v0 at *;generalize v2 1=v1 at *;generalize v2 2=vm at *;have a8:∀k,k<=2->0+k<VB.n:=fun k hk=>aa
   clear e3 fn hu;refine aF (B:=VB) (v:=ay v0) rfl rfl (.there .here) (a8 0 aa) cr rfl ?_
   refine go ?_;refine ac rfl (fun i0=>?_) (fun ix=>?_)
   ·rw[ai aa] at I;have V:E = .wr:=I
    subst V;refine go ?_;exact af (bx [8] rfl)
   rw[ah aa] at I;refine fW ?_;dsimp only[fE];refine dk ?_;refine bZ (m':=((sb,dW (xG x q oa cq))::(M,cI U N cp (B:Nat))::(K,A3 (ja q))::(om++((lb,L3 iK)::(jk++j))))++[(vb,VB)]) (.of_perm an) ?_
   refine nu mixed_ok (qs:=qsT) [(vb,VB)] 4224 246288 [0,1,2,3,5,6,7,8,10,11,12,13] (.fin [4,9,14,15,16,17] []) rfl (by kernel_rfl) ?_
   have bo:aU ([(vb,VB)]++G) ta (tl-q.lo) tc (aX TX q.lo):=c8.mono fun p hp=>List.mem_append.2 (.inr hp)
   have fa:=c8.le
   refine go ?_;refine aK (B:=VB) (v:=ay v0) rfl rfl (by simp) (a8 0 aa) cr rfl ?_
   refine go ?_;refine fu v0 bo rfl rfl rfl rfl rfl aa rfl ?_
   refine go ?_;refine aK (B:=VB) (v:=ay v0) rfl rfl (by simp) (a8 0 aa) cr rfl ?_
   refine go ?_;refine cT v0 (tl-q.lo) bo rfl rfl rfl rfl rfl rfl rfl aa fa rfl ?_
   refine go ?_;refine⟨rfl,_,_,rfl,rfl,?_⟩
   refine go ?_;obtain⟨src,bs,bu⟩:=((bo.cut (h:=v0) aa).add (m:=(sb,dW (xG x q oa cq))::(M,cI U N cp (B:Nat))::(K,A3 (ja q))::(om++((lb,L3 iK)::(jk++j))))).src
   refine fZ (s:=0) (src:=src) (k:=v0) (len:=q.ol) (v:=.slice oa q.ol cq) (cl:=dw q.out) (sm:=om) (fm:=(sb,dW (xG x q oa cq))::(M,cI U N cp (B:Nat))::(K,A3 (ja q))::(lb,L3 iK)::(jk++j)) rfl rfl rfl rfl z5 (by decide) rfl rfl d2
    an bs (fun y hy=>by rw[bu y aa];rfl) aa hex rfl ?_
   intro w om2 d5;obtain⟨b4,b5,rfl⟩:=bV d5;obtain⟨O2,d6⟩:∃O2,O2=fj q.out q.ol v0 fun i=>TX (q.lo+i):=⟨_,rfl⟩
   have al:dH 1 (.slice b4 (q.ol+v0) b5) (q.ol+v0) (dw O2) om2:=bR d5 fun y hy=>by
    have hy:y<(q.ol+v0)*(0+1):=hy
    unfold dw;rw[d6];by_cases a4:y<q.ol
    ·rw[ai aa,co aa]
    ·rw[ah aa,bu _ aa,dr aa aa,show y-q.ol*(0+1)=y-q.ol from aa];rfl
   rw[<- d6] at I;have d4:(om2++(sb,dW (xG x q oa cq))::(M,cI U N cp (B:Nat))::(K,A3 (ja q))::(lb,L3 iK)::(jk++j)).Perm ((sb,dW (xG x q oa cq))::(M,cI U N cp (B:Nat))::(K,A3 (ja q))::(lb,L3 iK)::(om2++(jk++j))):=an
   refine cA (.of_perm d4) (fun _ h=>cA ((aR.of_perm d4).append_right _) (fun _ h=>bZ ((aR.of_perm d4).append_right _) h) h) ?_
   refine go ?_;obtain⟨M2,et⟩:∃M2:ao,M2=(sb,dW (xG x { q with ol:=q.ol+v0 } b4 b5))::(vb,VB)::(M,cI U N cp (B:Nat))::(K,A3 (ja q))::(lb,L3 iK)::(om2++(jk++j)):=⟨_,rfl⟩
   have eb:aR ((sb,(dW (xG x q oa cq)).st (0+0) (.slice b4 (q.ol+v0) b5))::(M,cI U N cp (B:Nat))::(K,A3 (ja q))::(lb,L3 iK)::(om2++(jk++j))++[(vb,VB)]) M2:=by
    rw[et];exact .cons dT (.of_perm an)
   refine cA eb (fun _ h=>bZ eb h) ?_
   rw[et];clear et eb M2;have bm:aU G (ek ta v0 tc) (tl-q.lo-v0) (tc-v0) (aX TX (q.lo+v0)):=by
    have:=c8.sub (l:=v0) (h:=tl-q.lo) aa (aZ _)
    rwa[show(fun i=>aX TX q.lo (v0+i))=aX TX (q.lo+v0) from funext fun i=>by unfold aX;rw[Nat.add_assoc]] at this
   clear d5 bu bs d2 bo fa;refine go ?_;refine aF (B:=VB) (v:=ay v1) rfl rfl (.there .here) (a8 1 aa) ld1 rfl ?_
   refine go ?_;refine aF (B:=VB) (v:=ay v0) rfl rfl (.there .here) (a8 0 aa) cr rfl ?_
   refine go ?_;refine ae (DV sb (xG x { q with ol:=q.ol+v0 } b4 b5) v1 ((v0:Int)=0) gs aa d7.1 d7.2) ?_ (fm:=(vb,VB)::(M,cI U N cp (B:Nat))::(K,A3 (ja q))::(lb,L3 iK)::(om2++(jk++j))) (hs:=.refl _)
   rintro w m ⟨rfl,rfl⟩;dsimp only;rw[show decide ((v0:Int)=0)=decide (v0=0) from decide_eq_decide.2 aa];obtain⟨f1,f2,f3⟩:=Gm v1 (decide (v0=0)) q.o1 q.o2 q.o3
   obtain⟨R4,hq⟩:∃R4,R4=sOff v1 (decide (v0=0)) q.o1 q.o2 q.o3:=⟨_,rfl⟩
   rw[<- hq] at f1 f2 f3 I ⊢;obtain⟨far,p1,p2,p3⟩:=R4;dsimp only at f1 f2 f3 I ⊢;have hL:p1=far:=f1
   subst hL;clear f1 hq;have i1:(q.ol+v0)<=2^32:=aa
   obtain⟨i7,io⟩:∃y:SB,y=SB.mk b4 (q.ol+v0) b5 x.win x.most x.tr x.t0 x.t1 x.t2 p1 p2 p3:=⟨_,rfl⟩
   refine go ?_;refine aJ 128 rfl (fun ha=>?_) (fun ha=>?_)
   ·rw[ai (.inl aa)] at I;have V:E = .wr:=I
    subst V;refine go ?_;exact af (bx [8] rfl)
   refine go ?_;refine ac rfl (fun fz=>?_) (fun fz=>?_)
   ·rw[ai (.inr aa)] at I;have V:E = .wr:=I
    subst V;refine go ?_;exact af (bx [8] rfl)
   rw[ah aa] at I;refine go ?_;refine aJ 143 rfl (fun e4=>?_) (fun e4=>?_)
   ·rw[ai (.inl aa)] at I;have V:E = .op:=I
    subst V;refine go ?_;exact af (bx [8] rfl)
   refine go ?_;refine aF (B:=VB) (v:=ay vm) rfl rfl (.there .here) (a8 2 aa) eq rfl ?_
   refine go ?_;refine ac rfl (fun hS=>?_) (fun hS=>?_)
   ·rw[ai (.inr aa)] at I;have V:E = .op:=I
    subst V;refine go ?_;exact af (bx [8] rfl)
   rw[ah aa] at I;have ho:1<=p1/\p1<=2^40:=aa
   have hn:1<=p2/\p2<=2^40:=aa
   have e6:1<=p3/\p3<=2^40:=aa
   have jj:p1<=q.ol+v0:=aa
   clear f2 f3 fz e4 ha;obtain⟨u,cd⟩:∃u,u=q.ol+v0:=⟨_,rfl⟩
   refine go ?_;refine aF (B:=VB) (v:=ay vm) rfl rfl (.there .here) (a8 2 aa) eq rfl ?_
   refine go ?_;refine aH (σ:=Nat×Option Addr×Nat×ao×ao) [] (fun t=>[(0,bf sb),(1,.slice (ek ta v0 tc) (tl-q.lo-v0) (tc-v0)),(2,ay cnt),(9,bf M),(11,ay s.ol),(12,bf K),(14,ay k),(20,ay p1),(55,ay cnt),(56,ay k),(161,ay vm),(162,ay t.1)])
    (fun t=>(sb,dW (SB.mk t.2.1 (u+t.1) t.2.2.1 x.win x.most x.tr x.t0 x.t1 x.t2 p1 p2 p3))::(M,cI U N cp (B:Nat))::(K,A3 (ja q))::(t.2.2.2.1++t.2.2.2.2)) (fun t=>t.1<=vm/\dH 1 (.slice t.2.1 (u+t.1) t.2.2.1) (u+t.1) (dw (iR O2 u (fun _=>0) 0 p1 t.1)) t.2.2.2.1) (fun t=>vm-t.1) (0,b4,b5,om2,(vb,VB)::(lb,L3 iK)::(jk++j)) ?_ ⟨Nat.zero_le _,by rw[cd];exact al⟩ ?_
   ·rw[cd];exact .cons rfl (.of_perm an)
   clear al;rintro⟨i,ax,O,bd,j3⟩ f ⟨hi,al⟩;dsimp only at hi al ⊢;refine go ?_;refine ac rfl (fun d8=>?_) (fun er=>?_)
   ·have i3:i<vm:=aa
    rcases al with⟨_,i8,_⟩|⟨zb,zo,zc,ZB,hR,rfl,hO,fc,e5,ee⟩
    ·omega
    cases hR;have al:dH 1 (.slice (some ⟨zb,zo,none⟩) (u+i) O) (u+i) (dw (iR O2 u (fun _=>0) 0 p1 i)) [(zb,ZB)]:=.inr ⟨zb,zo,O,ZB,rfl,rfl,hO,fc,e5,ee⟩
    have hD:∀y,y<u+i->zo+y<ZB.n:=fun y hy=>aa
    have e7:ZB.g (zo+(u+i-p1)) = .int .u8 (iR O2 u (fun _=>0) 0 p1 i (u+i-p1):Nat):=ee _ aa
    clear fc e5 ee;have fr:iR O2 u (fun _=>0) 0 p1 (i+1)=cV (iR O2 u (fun _=>0) 0 p1 i) (u+i) (iR O2 u (fun _=>0) 0 p1 i (u+i-p1)):=by rw[iR,ah aa]
    obtain⟨Y,hY⟩:∃Y,Y=iR O2 u (fun _=>0) 0 p1 i (u+i-p1):=⟨_,rfl⟩
    rw[<- hY] at e7 fr;refine go ?_;refine aF (B:=ZB) (v:=.int .u8 (Y:Nat)) rfl rfl (.there (.there (.there .here))) (hD _ aa) e7 rfl ?_
    refine go ?_;refine au (z:=.int .u8 0) (vs:=[.int .u8 (Y:Nat)]) rfl rfl z5 rfl rfl rfl rfl hex fun yb i5=>?_
    refine go ?_;refine bg (s:=0) (src:=fun z=>(aj [.int .u8 (Y:Nat)] 5).g (0+z)) (k:=1) (len:=u+i) (v:=.slice (some ⟨zb,zo,none⟩) (u+i) O) (cl:=dw (iR O2 u (fun _=>0) 0 p1 i)) (sm:=[(zb,ZB)]) (fm:=(sb,dW (SB.mk (some ⟨zb,zo,none⟩) (u+i) O x.win x.most x.tr x.t0 x.t1 x.t2 p1 p2 p3))::(yb,aj [.int .u8 (Y:Nat)] 5)::(M,cI U N cp (B:Nat))::(K,A3 (ja q))::j3) rfl rfl rfl rfl z5 (by decide) rfl rfl al
     an (k_.of (B:=aj [.int .u8 (Y:Nat)] 5) (by simp) (by show 0+1*(0+1)<=1;decide)) (fun z hz=>by rw[show z=0 from by have h:z<1:=hz;omega];rfl) aa hex rfl ?_
    intro w om4 ch b9;clear b9;obtain⟨bc,be,rfl⟩:=bV ch;have ea:dH 1 (.slice bc (u+i+1) be) (u+i+1) (dw (iR O2 u (fun _=>0) 0 p1 (i+1))) om4:=bR ch fun y hy=>by
     have hy:y<(u+i+1)*(0+1):=hy
     rw[fr];unfold dw;by_cases a4:y<u+i
     ·rw[ai aa,bz _ _ _ _ aa]
     ·rw[ah aa,show y-(u+i)*(0+1)=0 from aa,show y=u+i from aa,bL];rfl
    refine go ?_;exact⟨(i+1,bc,be,om4,(yb,aj [.int .u8 (Y:Nat)] 5)::j3),by dsimp only;omega,⟨by dsimp only;omega,by dsimp only;rw[<- Nat.add_assoc];exact ea⟩,cF,.cons dT (.of_perm an)⟩
   ·obtain rfl:i=vm:=aa;refine go ?_;obtain⟨O3,eo⟩:∃O3,O3=iR O2 u (fun _=>0) 0 p1 i:=⟨_,rfl⟩
    rw[<- cd,<- eo] at I;rw[<- eo] at al;clear eo d6;refine ac rfl (fun h9=>?_) (fun hH=>?_)
    ·obtain rfl:r=0:=aa;rw[ai (by rfl)] at I
     have I:E=vQ s T0 T1 T2 x.most TX tl { q with out:=O3,ol:=u+i,lo:=q.lo+v0,o1:=p1,o2:=p2,o3:=p3,a:=B }:=I
     unfold vQ at I;dsimp only at I;refine go ?_;refine ac rfl (fun hM=>?_) (fun hM=>?_)
     ·rw[ai aa] at I;subst I;refine go ?_;exact af (bx [8] rfl)
     rw[ah aa] at I;obtain⟨W,e8⟩:∃W,W=tl-(q.lo+v0):=⟨_,rfl⟩
     rw[show tl-q.lo-v0=W from aa] at bm;rw[<- e8] at I;refine go ?_;rw[show tl-q.lo-v0=W from aa];obtain⟨src,bs,bu⟩:=(bm.add (m:=(sb,dW (SB.mk ax (u+i) O x.win x.most x.tr x.t0 x.t1 x.t2 p1 p2 p3))::(M,cI U N cp (B:Nat))::(K,A3 (ja q))::(bd++j3))).src
     refine bg (s:=0) (src:=src) (k:=W) (len:=u+i) (v:=.slice ax (u+i) O) (cl:=dw O3) (sm:=bd) (fm:=(sb,dW (SB.mk ax (u+i) O x.win x.most x.tr x.t0 x.t1 x.t2 p1 p2 p3))::(M,cI U N cp (B:Nat))::(K,A3 (ja q))::j3) rfl rfl rfl rfl z5 (by decide) rfl rfl al
      an bs (fun y hy=>by rw[bu y aa];rfl) aa hex rfl ?_
     intro w om4 ch b9;clear b9;obtain⟨bc,be,rfl⟩:=bV ch;obtain⟨O4,hc⟩:∃O4,O4=fj O3 (u+i) W fun i=>TX (q.lo+v0+i):=⟨_,rfl⟩
     rw[<- hc] at I;have ea:dH 1 (.slice bc (u+i+W) be) (u+i+W) (dw O4) om4:=bR ch fun y hy=>by
      have hy:y<(u+i+W)*(0+1):=hy
      rw[hc];unfold dw;by_cases a4:y<u+i
      ·rw[ai aa,co aa]
      ·rw[ah aa,bu _ aa,dr aa aa,show y-(u+i)*(0+1)=y-(u+i) from aa];rfl
     refine go ?_;refine ac rfl (fun h7=>?_) (fun h7=>?_)
     ·rw[ai aa] at I;subst I;refine go ?_;exact af (bx [8] rfl)
     rw[ah aa] at I;subst I;refine go ?_;exact af (cE [8] ((sb,dW { x with oa:=bc,ol:=u+i+W,cp:=be,o1:=p1,o2:=p2,o3:=p3 })::om4) (junk:=(M,cI U N cp (B:Nat))::(K,A3 (ja q))::j3) ⟨rfl,⟨ho,hn,e6⟩,bc,be,om4,rfl,ea⟩ (.trans (.cons (aW (B':=dW { x with oa:=bc,ol:=u+i+W,cp:=be,o1:=p1,o2:=p2,o3:=p3 }) rfl rfl rfl rfl) (.refl _)) (.of_perm an)))
    ·rw[ah (by simp;omega)] at I
     refine go ?_;refine au (z:=.int .i64 0) (vs:=[.int .i64 0,.int .i64 2,.int .i64 1]) rfl rfl z3 rfl rfl rfl rfl hex fun nb j2=>?_
     refine bj (m':=(nb,L3 jY)::(sb,dW (SB.mk ax (u+i) O x.win x.most x.tr x.t0 x.t1 x.t2 p1 p2 p3))::(M,cI U N cp (B:Nat))::(K,A3 (ja q))::(bd++j3)) (.cons (by rw[Ed];rfl) (.refl _)) ?_
     obtain⟨J,cs⟩:∃J:Nat->Nat,J=fun j=>(T j).bits (ja q j):=⟨_,rfl⟩
     have ce:∀j,j<=2->J j<=9/\(T j).base (ja q j)+2^J j<=2^(T j).log/\ja q j<2^(T j).log:=fun j hj=>by
      have ex:ja q j<2^(T j).log:=by rw[hT];exact cw j hj
      rw[cs];exact⟨((hK j hj).bits ex).1,(hK j hj).next _ ex,ex⟩
     obtain⟨F,a3⟩:∃F,F=Ee (fun j=>if j<=2 then J (jY j) else 0) (B:Nat):=⟨_,rfl⟩
     have b3:∀j,F j<=(B:Nat)/\((B:Nat):Int)-j*9<=F j:=by
      rw[a3];exact vP (B:=9) fun j=>by
       split
       ·exact(ce _ (Ax j)).1
       ·omega
     have aw:∀j,j<=2->F (j+1)=F j-(J (jY j):Nat):=fun j hj=>by
      rw[a3];show Ee _ _ j-(((if j<=2 then J (jY j) else 0):Nat):Int)=_
      rw[ai hj]
     have bt:F 0=(B:Nat):=by rw[a3];rfl
     clear a3;refine go ?_;refine aH (σ:=Nat×(Nat->Nat)×ao) [] (fun t=>[(0,bf sb),(1,.slice (ek ta v0 tc) (tl-q.lo-v0) (tc-v0)),(2,ay cnt),(9,bf M),(11,ay s.ol),(12,bf K),(55,ay cnt),(56,ay k),(191,.slice (bi nb) 3 3),(192,.int .i64 3),(193,ay t.1)])
      (fun t=>(M,cI U N cp (F t.1))::(K,A3 t.2.1)::(nb,L3 jY)::(sb,dW (SB.mk ax (u+i) O x.win x.most x.tr x.t0 x.t1 x.t2 p1 p2 p3))::(bd++(t.2.2++j3))) (fun t=>t.1<=3/\(∀i,i<t.1->t.2.1 (jY i)=(T (jY i)).base (ja q (jY i))+kQ d (F i) (J (jY i)))/\∀i,t.1<=i->i<=2->t.2.1 (jY i)=ja q (jY i)) (fun t=>3-t.1) (0,ja q,[]) (by rw[bt];exact .of_perm an) ⟨Nat.zero_le _,fun i h=>absurd h (Nat.not_lt_zero _),fun i _ _=>rfl⟩ ?_
     rintro⟨y,v,c4⟩ f ⟨ib,cm,c7⟩;dsimp only at ib cm c7 ⊢;refine go ?_;refine ac rfl (fun d8=>?_) (fun er=>?_)
     ·have a4:y<=2:=aa
      have H:=Ax y
      obtain⟨kd,am⟩:∃kd,kd=jY y:=⟨_,rfl⟩
      have ad:=IF jY a4
      have d1:=c7 y (aZ _) a4
      rw[<- am] at H ad d1;obtain⟨pb,tb,TB,hp,b7,c6,hg⟩:=hI kd H;have a6:=vO (SB.mk ax (u+i) O x.win x.most x.tr x.t0 x.t1 x.t2 p1 p2 p3) H
      rw[show SB.tp (SB.mk ax (u+i) O x.win x.most x.tr x.t0 x.t1 x.t2 p1 p2 p3) kd=some ⟨pb,0,none⟩ from hp] at a6;obtain⟨z1,z2,z3⟩:=ce kd H;have ec:(T kd).bits (ja q kd)=J kd:=by rw[cs]
      obtain⟨b1,b2⟩:=b3 y;have es:=Ea v H
      rw[d1] at es;refine go ?_;refine aF (v:=ay kd) rfl rfl (.there (.there .here)) (IE jY a4) ad rfl ?_
      refine go ?_;refine aF (v:=bf pb) rfl rfl (.there (.there (.there .here))) (oz _ H) a6 rfl ?_
      refine go ?_;refine gL (s:=1) rfl rfl rfl (List.mem_append.2 (.inr b7)) (aZ 2) rfl ?_
      refine go ?_;refine aF (v:=.int .i64 (ja q kd:Nat)) rfl rfl (.there .here) (xD _ H) es rfl ?_
      refine go ?_;refine ae (DS M U N cp hd hv aa (F y) aa aa tb (2^(T kd).log) (2^(T kd).log) (T kd).log TB _ _ _ c6 hg (fun p hp=>by have:=(hK kd H).bits hp;omega) (ja q kd) z3) ?_ (fm:=(K,A3 v)::(nb,L3 jY)::(sb,dW (SB.mk ax (u+i) O x.win x.most x.tr x.t0 x.t1 x.t2 p1 p2 p3))::(bd++(c4++j3))) (hs:=.refl _)
      rintro w m ⟨rfl,rfl⟩;rw[ec];refine go ?_;refine bD (B:=A3 v) (v:=.int .i64 (((T kd).base (ja q kd)+kQ d (F y) (J kd):Nat):Int)) rfl rfl rfl rfl (.there .here) (xD v H) (Ec v) hex ?_
      refine go ?_;refine⟨(y+1,cV v kd ((T kd).base (ja q kd)+kQ d (F y) (J kd)),c4),by dsimp only;omega,⟨by dsimp only;omega,fun i' b8=>?_,fun i' b8 dt=>?_⟩,cF,?_⟩
      ·dsimp only at b8 ⊢;by_cases he:i'=y
       ·rw[he,<- am,bL]
       ·rw[bz _ _ _ _ (fun h=>he (xF aa a4 (h.trans am)))];exact cm i' aa
      ·dsimp only at b8 ⊢;rw[bz _ _ _ _ (fun h=>by have:=xF dt a4 (h.trans am);omega)];exact c7 i' aa dt
      ·dsimp only;rw[aw y a4,<- am];exact .skip (.cons (Eb v H _) (.refl _))
     ·obtain rfl:y=3:=aa;obtain⟨b1,b2⟩:=b3 3;have e0:F 1=F 0-(J 0:Nat):=aw 0 aa
      have e1:F 2=F 1-(J 2:Nat):=aw 1 aa
      have e2:F 3=F 2-(J 1:Nat):=aw 2 aa
      have a0:v 0=(T 0).base (ja q 0)+kQ d (F 0) (J 0):=cm 0 aa
      have a2:v 2=(T 2).base (ja q 2)+kQ d (F 1) (J 2):=cm 1 aa
      have a1:v 1=(T 1).base (ja q 1)+kQ d (F 2) (J 1):=cm 2 aa
      have ih:∀j,j<=2->v j<2^(T j).log:=fun j hj=>by
       have ev:j=0\/j=1\/j=2:=aa
       rcases ev with rfl|rfl|rfl
       ·rw[a0];exact Nat.lt_of_lt_of_le (Nat.add_lt_add_left (fC _ _ _) _) (ce 0 aa).2.1
       ·rw[a1];exact Nat.lt_of_lt_of_le (Nat.add_lt_add_left (fC _ _ _) _) (ce 1 aa).2.1
       ·rw[a2];exact Nat.lt_of_lt_of_le (Nat.add_lt_add_left (fC _ _ _) _) (ce 2 aa).2.1
      have n0:T0.bits q.s0=J 0:=by rw[cs,<- cS];rfl
      have n1:T1.bits q.s1=J 1:=by rw[cs,<- dc];rfl
      have n2:T2.bits q.s2=J 2:=by rw[cs,<- cx];rfl
      have m0:(T 0).base (ja q 0)=T0.base q.s0:=by rw[cS];rfl
      have m1:(T 1).base (ja q 1)=T1.base q.s1:=by rw[dc];rfl
      have m2:(T 2).base (ja q 2)=T2.base q.s2:=by rw[cx];rfl
      rw[m0] at a0;rw[m1] at a1;rw[m2] at a2;rw[n0,n1,n2] at I;rw[bt] at e0 a0;refine go ?_;refine ac rfl (fun i4=>?_) (fun j5=>?_)
      ·rw[ai aa] at I;have V:E = .wr:=I
       subst V;refine go ?_;exact af (bx [8] rfl)
      rw[ah aa] at I;have w0:T0.base q.s0+aq d (B-J 0) (J 0)=v 0:=by rw[a0,iJ _ _ _ aa]
      have w2:T2.base q.s2+aq d (B-J 0-J 2) (J 2)=v 2:=by rw[a2,e0,show((B:Nat):Int)-(J 0:Nat)=((B-J 0:Nat):Int) from aa,iJ _ _ _ aa]
      have w1:T1.base q.s1+aq d (B-J 0-J 2-J 1) (J 1)=v 1:=by rw[a1,e1,e0,show((B:Nat):Int)-(J 0:Nat)-(J 2:Nat)=((B-J 0-J 2:Nat):Int) from aa,iJ _ _ _ aa]
      rw[w0,w1,w2] at I;have d0:tl-q.lo-v0=tl-(q.lo+v0):=Nat.sub_sub _ _ _
      rw[d0] at bm;refine go ?_;have hx:∀a,A3 (ja { q with out:=O3,ol:=u+i,lo:=q.lo+v0,o1:=p1,o2:=p2,o3:=p3,a:=a,s0:=v 0,s1:=v 1,s2:=v 2 })=A3 v:=fun a=>by rw[uC,uC];rfl
      refine⟨⟨k+1,{ q with out:=O3,ol:=u+i,lo:=q.lo+v0,o1:=p1,o2:=p2,o3:=p3,a:=0,s0:=v 0,s1:=v 1,s2:=v 2 },F 3,ek ta v0 tc,tc-v0,ax,O,bd,(nb,L3 jY)::(c4++j3)⟩,by dsimp only;omega,⟨by dsimp only;omega,by dsimp only;omega,by dsimp only;omega,by dsimp only;omega,ho,hn,e6,fun j hj=>?_,bm,al,by dsimp only;omega,by dsimp only;omega,.inl ⟨by dsimp only;omega,?_⟩⟩,⟨rfl,by dsimp only;rw[<- d0];rfl,rfl,rfl,rfl,rfl,rfl,rfl,trivial⟩,?_⟩
      ·have:=ih j hj
       rw[hT] at this;have ev:j=0\/j=1\/j=2:=aa
       rcases ev with rfl|rfl|rfl<;>exact this
      ·dsimp only;rw[show cnt-(k+1)=r from aa,show(F 3).toNat=B-J 0-J 2-J 1 from aa];exact I
      ·dsimp only;rw[hx];show aR _ ((sb,dW (SB.mk ax (u+i) O x.win x.most x.tr x.t0 x.t1 x.t2 p1 p2 p3))::(M,cI U N cp (F 3))::(K,A3 v)::(bd++((nb,L3 jY)::(c4++j3))))
       exact .of_perm an
end Go.Proofs.YtogmacnlpclgkaaGreatDoor
