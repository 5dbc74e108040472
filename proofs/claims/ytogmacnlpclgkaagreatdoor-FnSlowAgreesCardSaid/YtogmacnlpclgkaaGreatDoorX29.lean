/- Texts 29. -/
import Derived.Test.YtogmacnlpclgkaaGreatDoorX28
set_option linter.all false
namespace Go.Proofs.YtogmacnlpclgkaaGreatDoor
open Go Go.Eng Go.Pz
theorem Gj (d:Nat->Nat) (p q:Nat):Cs (aX d p) q=Cs d (8*p+q):=by
 unfold Cs aX
 rw[show(8*p+q)/8=p+q/8 from aa,show(8*p+q)%8=q%8 from aa]
theorem du (d:Nat->Nat) (p:Nat):∀(k q:Nat),aq (aX d p) q k=aq d (8*p+q) k
 | 0,_=>rfl
 | k+1,q=>by rw[aq,aq,Gj,du d p k (q+1),Nat.add_assoc]
theorem xz (d:Nat->Nat) (p q most:Nat):eg (aX d p) q most=eg d (8*p+q) most:=by
 unfold eg
 simp only[du]
theorem sT (d:Nat->Nat) (p:Nat):∀(k q:Nat),dC (aX d p) q k=dC d (8*p+q) k
 | 0,_=>rfl
 | k+1,q=>by rw[dC,dC,du,sT d p k (q+2),Nat.add_assoc]
theorem nw {d:Nat->Nat}:∀{k k' q:Nat},dC d q k<k->dC d q k<k'->dC d q k'=dC d q k
 | 0,_,_,h,_=>absurd h (Nat.not_lt_zero _)
 | k+1,0,q,_,h'=>absurd h' (Nat.not_lt_zero _)
 | k+1,k'+1,q,h,h'=>by
  rw[dC] at h h' ⊢;rw[dC];by_cases hb:aq d q 2=3
  ·rw[ai hb] at h h' ⊢;rw[ai hb,nw (k:=k) (k':=k') aa aa]
  ·rw[ah hb,ah hb]
theorem nx {d:Nat->Nat} {N M j:Nat}:∀{k q left:Nat} {sh:Nat->Int} {c:Nat} {sh':Nat->Int} {i g:Nat},
  bI false d N j k q left sh c=some (sh',i,g)->g<=8*M->bI false d M j k q left sh c=some (sh',i,g)
 | 0,_,_,_,_,_,_,_,h,_=>by cases h
 | k+1,q,left,sh,c,sh',i,g,h,hq=>by
  by_cases hl:left=0
  ·unfold bI at h ⊢
   rw[ai hl] at h ⊢;exact h
  obtain⟨u,r,l⟩:=fy h hl;simp only[Bool.false_eq_true,if_false] at r l
  unfold bI;rw[ah hl,ah aa];simp only[Bool.false_eq_true,if_false]
  rcases l with⟨p1,p2,p3,p4,p5⟩|⟨p1,p2⟩
  ·have p:=gS p5
   have t:dC d (q+(eg d q (left+1)).2) (4*M)=dC d (q+(eg d q (left+1)).2) (4*N):=nw aa aa
   rw[ah aa,ai aa,ah aa,t,ah aa,ah aa,p1];exact nx p5 hq
  ·have p:=gS p2
   rw[ah aa,ah aa];exact nx p2 hq
theorem mM {d:Nat->Nat} {p N j:Nat}:∀{k q left:Nat} {sh:Nat->Int} {c:Nat} {sh':Nat->Int} {g i:Nat},
  bI false (aX d p) N j k q left sh c=some (sh',g,i)->bI false d (p+N) j k (8*p+q) left sh c=some (sh',g,8*p+i)
 | 0,_,_,_,_,_,_,_,h=>by cases h
 | k+1,q,left,sh,c,sh',g,i,h=>by
  by_cases hl:left=0
  ·unfold bI at h ⊢
   rw[ai hl] at h ⊢
   cases h;rfl
  obtain⟨u,r,l⟩:=fy h hl;simp only[Bool.false_eq_true,if_false,xz,sT,du] at r l
  unfold bI;rw[ah hl,ah aa];simp only[Bool.false_eq_true,if_false]
  rcases l with⟨p1,p2,p3,p4,p5⟩|⟨p1,p2⟩
  ·rw[<- Nat.add_assoc] at p3 p4 p5;have t:dC d (8*p+q+(eg d (8*p+q) (left+1)).2) (4*(p+N))=dC d (8*p+q+(eg d (8*p+q) (left+1)).2) (4*N):=nw aa aa
   rw[ah aa,ai aa,ah aa,t,ah aa];have e:8*p+(q+(eg d (8*p+q) (left+1)).2+2*dC d (8*p+q+(eg d (8*p+q) (left+1)).2) (4*N))=8*p+q+(eg d (8*p+q) (left+1)).2+2*dC d (8*p+q+(eg d (8*p+q) (left+1)).2) (4*N):=aa
   rw[e] at p4 p5;rw[ah aa,p1];have:=mM p5
   rw[show 8*p+q+(eg d (8*p+q) (left+1)).2+2*dC d (8*p+q+(eg d (8*p+q) (left+1)).2) (4*N)+2=8*p+(q+(eg d (8*p+q) (left+1)).2+2*dC d (8*p+q+(eg d (8*p+q) (left+1)).2) (4*N)+2) from aa];exact this
  ·rw[ah aa,ah aa];have:=mM p2
   rw[<- Nat.add_assoc] at this;exact this
theorem kD {d:Nat->Nat} {p N l:Nat}:∀{k q left:Nat} {sh:Nat->Int} {c:Nat} {sh':Nat->Int} {g i:Nat},
  bI false d (p+N) l k (8*p+q) left sh c=some (sh',g,i)->∃j,i=8*p+j/\bI false (aX d p) N l k q left sh c=some (sh',g,j)
 | 0,_,_,_,_,_,_,_,h=>by cases h
 | k+1,q,left,sh,c,sh',g,i,h=>by
  by_cases hl:left=0
  ·unfold bI at h;rw[ai hl] at h;cases h;refine⟨q,rfl,?_⟩
   unfold bI;rw[ai hl]
  obtain⟨y,t,r⟩:=fy h hl;simp only[Bool.false_eq_true,if_false] at t r
  unfold bI;rw[ah hl,ah aa];simp only[Bool.false_eq_true,if_false,xz,sT,du]
  rcases r with⟨p1,p2,p3,p4,p5⟩|⟨p1,p2⟩
  ·rw[<- Nat.add_assoc];have u:dC d (8*p+q+(eg d (8*p+q) (left+1)).2) (4*N)=dC d (8*p+q+(eg d (8*p+q) (left+1)).2) (4*(p+N)):=nw aa aa
   rw[ah aa,ai aa,ah aa,u,ah aa];have e:8*p+(q+(eg d (8*p+q) (left+1)).2+2*dC d (8*p+q+(eg d (8*p+q) (left+1)).2) (4*(p+N)))=8*p+q+(eg d (8*p+q) (left+1)).2+2*dC d (8*p+q+(eg d (8*p+q) (left+1)).2) (4*(p+N)):=aa
   rw[e,ah aa,p1];refine kD ?_;rw[show 8*p+(q+(eg d (8*p+q) (left+1)).2+2*dC d (8*p+q+(eg d (8*p+q) (left+1)).2) (4*(p+N))+2)=8*p+q+(eg d (8*p+q) (left+1)).2+2*dC d (8*p+q+(eg d (8*p+q) (left+1)).2) (4*(p+N))+2 from aa];exact p5
  ·rw[ah aa,ah aa];rw[Nat.add_assoc] at p2;exact kD p2
theorem ow {look:Bool} {d:Nat->Nat} {N i k q log c r:Nat} {sh:Nat->Int} (h:eI look d N i k q=some (log,sh,c,r)) :
  q+(if look then 16 else 4)<=8*N/\log=aq d q 4+5/\log<=i/\bI look d N k (k+2) (q+4) (2^log) (fun _=>0) 0=some (sh,c,r):=by
 unfold eI at h
 by_cases p:8*N<q+(if look then 16 else 4)
 ·rw[ai p] at h;cases h
 rw[ah p] at h
 dsimp only at h
 by_cases l:i<aq d q 4+5
 ·rw[ai l] at h;cases h
 rw[ah l] at h
 obtain⟨⟨u,c1,y⟩,t,j⟩:=Option.map_eq_some_iff.1 h
 obtain⟨g,j⟩:=Prod.mk.inj j
 subst g
 cases j
 exact⟨aa,rfl,aa,t⟩
theorem xA {look:Bool} {d:Nat->Nat} {N h g q log c i:Nat} {sh:Nat->Int} (l:q+(if look then 16 else 4)<=8*N) (j:log=aq d q 4+5) (p:log<=h)
  (k:bI look d N g (g+2) (q+4) (2^log) (fun _=>0) 0=some (sh,c,i)):eI look d N h g q=some (log,sh,c,i):=by
 subst j
 unfold eI
 rw[ah aa]
 dsimp only
 rw[ah aa,k];rfl
theorem vJ {log:Nat} (h:log<=9):2^log<=512:=Nat.pow_le_pow_right (n:=2) (i:=log) (j:=9) aa h
theorem sU {d:Nat->Nat} {n p M i k log c j:Nat} {sh:Nat->Int} (r:i<=9) (h:eI true d n i k (8*p)=some (log,sh,c,j)) (y:j<=8*(p+M)) :
  ∃g,j=8*p+g/\eI false (aX d p) M i k 0=some (log,sh,c,g):=by
 obtain⟨B,q,t,A⟩:=ow h
 have hl:=vJ (log:=log) aa
 have l:=nx (M:=p+M) (lG A hl) y
 obtain⟨g,z,u⟩:=kD l
 have C:=gS l
 refine⟨g,z,xA ?_ ?_ t u⟩
 ·rw[ah (by decide)];omega
 ·rw[du,Nat.add_zero];exact q
theorem qX {d:Nat->Nat} {n p M g j log c i:Nat} {sh:Nat->Int} (y:g<=9) (h:eI false (aX d p) M g j 0=some (log,sh,c,i)) (B:p+(i+7)/8+2<=n) :
  eI true d n g j (8*p)=some (log,sh,c,8*p+i):=by
 obtain⟨r,l,z,q⟩:=ow h
 rw[ah (by decide)] at r
 have hl:=vJ (log:=log) aa
 have u:=mM q
 have k:=nx (M:=n) u aa
 have t:=lH k hl aa aa
 have A:=gS k
 refine xA ?_ ?_ z t
 ·rw[ai rfl];omega
 ·simpa[du] using l
theorem kq {look:Bool} {d:Nat->Nat} {N g k q log c j:Nat} {sh:Nat->Int} (p:g<=9) (h:eI look d N g k q=some (log,sh,c,j)):q<=j/\j<=8*N/\5<=log/\log<=g/\c<=k+1/\(∀i,c<=i->sh i=0)/\fe sh c (2^log):=by
 obtain⟨C,z,r,y⟩:=ow h
 have hl:=vJ (log:=log) aa
 have B:=Nat.two_pow_pos log
 obtain⟨f1,f2,u,t,A,l⟩:=jL y hl (Nat.zero_le _) (fun _ _=>rfl) (fun _=>by show(-1:Int)<=0;decide)
 exact⟨aa,(l aa).2,aa,r,f2,u,⟨dO.of_log aa aa,fun s _=>t s,by rw[f1];show 0+0+2^_=_;omega⟩⟩
theorem sV {t t':Nat->Nat} {s:Nat}:∀{p:Nat},(∀i,i<p->t i=t' i)->jK t s p=jK t' s p
 | 0,_=>rfl
 | p+1,h=>by rw[jK,jK,sV (p:=p) fun i hi=>h i aa,h p aa]
theorem qY {sh:Nat->Int} {c n size p:Nat} (f:fe sh c size) (h:c<=n) (g:∀i,c<=i->sh i=0):eH sh n size p=eH sh c size p:=by
 unfold eH
 dsimp only
 rw[ju f h g,sV (t:=aI sh n size) (t':=aI sh c size) fun i _=>ju f h g]
theorem jT {sh:Nat->Int} {c n log p:Nat} (f:fe sh c (2^log)) (h:c<=n) (g:∀i,c<=i->sh i=0):aG sh n log p=aG sh c log p:=by
 unfold aG;rw[qY f h g]
theorem mN {sh:Nat->Int} {c n log p:Nat} (f:fe sh c (2^log)) (h:c<=n) (g:∀i,c<=i->sh i=0):bO sh n log p=bO sh c log p:=by
 unfold bO;rw[jT f h g,qY f h g]
theorem rvV_al2 {d:Nat->Nat} {a b:Nat} (h:b<=25):dQ d a b=aq d (a-b) b:=by
 unfold dQ
 rw[Nat.min_eq_left aa]
theorem dj {st a b:Nat} (h:8*st<=a):jM st a b ↔ 8*st+b<=a:=by unfold jM;omega
theorem qZ {g bt l:Nat->Nat} {d:Nat->Nat} {p o:Nat} (hb:∀s,bt s<=25):∀{k a s1 s2:Nat} {w:Nat->Nat} {c:Nat},8*o<=a ->
  dh g bt l d (p+o) k (8*p+a) s1 s2 w c=dh g bt l (aX d p) o k a s1 s2 w c
 | 0,_,_,_,_,_,_=>rfl
 | k+1,a,s1,s2,w,c,h=>by
  rw[dh,dh];have q:jM (p+o) (8*p+a) (bt s1) ↔ jM o a (bt s1):=by rw[dj aa,dj h];omega
  by_cases i:jM o a (bt s1)
  ·rw[ah (not_not_intro (q.2 i)),ah (not_not_intro i)];have r:=(dj h).1 i
   by_cases j:255<=c
   ·rw[ai j,ai j]
   ·rw[ah j,ah j,rvV_al2 (hb s1),rvV_al2 (hb s1),show 8*p+a-bt s1=8*p+(a-bt s1) from aa,du];exact qZ hb aa
  ·rw[ai (fun x=>i (q.1 x)),ai i]
theorem nR {h bt l g i j:Nat->Nat} (d:Nat->Nat) (st:Nat) (size:Nat) (hb:∀s,s<size->l s+2^bt s<=size) (p:∀s,s<size->h s=g s/\bt s=i s/\l s=j s):∀{k a s1 s2:Nat} {w:Nat->Nat} {c:Nat},s1<size->s2<size ->
  dh h bt l d st k a s1 s2 w c=dh g i j d st k a s1 s2 w c
 | 0,_,_,_,_,_,_,_=>rfl
 | k+1,a,s1,s2,w,c,h1,h2=>by
  rw[dh,dh];obtain⟨r,q,t⟩:=p s1 h1;obtain⟨u,_,_⟩:=p s2 h2;have z:=hb s1 h1
  have A:=eS d a (bt s1)
  have y:=nR d st size hb p (k:=k) (a:=a-bt s1) (s1:=s2) (s2:=l s1+dQ d a (bt s1)) (w:=cV w c (h s1)) (c:=c+1) h2 aa
  rw[y,r,q,t,u]
theorem qj {i bt j:Nat->Nat} {d:Nat->Nat} {st:Nat}:∀{k a s1 s2:Nat} {w:Nat->Nat} {c:Nat} {w':Nat->Nat} {g:Nat},dh i bt j d st k a s1 s2 w c=some (w',g)->g<=255
 | 0,_,_,_,_,_,_,_,h=>by cases h
 | k+1,a,s1,s2,w,c,w',g,h=>by
  rw[dh] at h;split at h
  ·split at h
   ·cases h
   ·cases h;omega
  ·split at h
   ·cases h
   ·exact qj h
theorem DY {d:Nat->Nat} {n p hdr log F q:Nat} {sh:Nat->Int} (hd:∀i,d i<256) (H:eI true d n 6 255 (8*p)=some (log,sh,F,8*p+q)) (B:eI false (aX d p) hdr 6 255 0=some (log,sh,F,q)) (h0:0<hdr) (hn:p+hdr<=n) :
  gI d n p hdr=pv (aX d p) hdr:=by
 obtain⟨q1,q2,q3,q4,l,t,r⟩:=kq aa H
 obtain⟨o,M⟩:∃o,o=(q+7)/8:=⟨_,rfl⟩
 obtain⟨b,hb⟩:∃b,b=d (p+hdr-1):=⟨_,rfl⟩
 obtain⟨z,u⟩:∃z,z=Nat.log2 b:=⟨_,rfl⟩
 have k:aX d p (hdr-1)=b:=by rw[hb];unfold aX;congr 1;omega
 have y:(8*p+q+7)/8=p+o:=aa
 have hf:fe sh 256 (2^log):=r.zeros l t
 have j:∀s,s<2^log->bO sh 256 log s+2^aG sh 256 log s<=2^log:=fun s hs=>(h_ hf hs).2.2
 unfold gI pv
 rw[H,B]
 dsimp only
 rw[ah aa,<- hb,y,<- M,k]
 have W:dU (aX d p) (hdr-1)=8*(hdr-1)+z:=by unfold dU;rw[k,u]
 rw[W,<- u]
 by_cases g:b=0
 ·rw[ai g,ai g];split<;>rfl
 rw[ah g,ah g]
 have U:z<8:=by rw[u];exact(Nat.log2_lt g).2 (by rw[hb];exact hd _)
 have V:8*(p+hdr-1)+z=8*p+(8*(hdr-1)+z):=aa
 rw[V]
 obtain⟨A,hA⟩:∃A,A=8*(hdr-1)+z:=⟨_,rfl⟩
 rw[<- hA]
 by_cases I:hdr<=o
 ·rw[ai I];by_cases h:jM (p+o) (8*p+A) log
  ·rw[ah (fun x=>x h),ai]
   unfold jM at h ⊢;omega
  ·rw[ai h]
 rw[ah I]
 have J:8*o<=A:=aa
 have c1:jM (p+o) (8*p+A) log ↔ 8*o+log<=A:=by rw[dj aa];omega
 by_cases C:A<8*o+log+log
 ·rw[ai C];by_cases h:jM (p+o) (8*p+A) log
  ·have Y:=c1.1 h
   have c2:jM (p+o) (8*p+A-log) log ↔ 8*o+log<=A-log:=by rw[dj aa];omega
   rw[ah (fun x=>x h),ai (fun x=>by have:=c2.1 x;omega)]
  ·rw[ai h]
 rw[ah C]
 have h:=c1.2 aa
 have c2:jM (p+o) (8*p+A-log) log:=(dj aa).2 aa
 rw[ah (fun x=>x h),ah (fun x=>x c2)]
 rw[rvV_al2 aa,rvV_al2 aa,show 8*p+A-log-log=8*p+(A-log-log) from aa,show 8*p+A-log=8*p+(A-log) from aa,du,du]
 have K:=aY d log (8*p+(A-log))
 have O:=aY d log (8*p+(A-log-log))
 rw[nR d _ (2^log) j (fun s _=>⟨ju r l t,jT r l t,mN r l t⟩) K O]
 exact qZ (fun s=>by unfold aG;omega) aa
theorem DZ {d:Nat->Nat} {n p hdr:Nat} {w:Nat->Nat} {c:Nat} (hd:∀i,d i<256) (h:gI d n p hdr=some (w,c)):pv (aX d p) hdr=some (w,c):=by
 cases hP:eI true d n 6 255 (8*p) with
 | none=>unfold gI at h;rw[hP] at h;cases h
 | some P =>
  obtain⟨log,sh,B,q⟩:=P;obtain⟨C,H,F,u,I,A,y⟩:=kq aa hP;have key:p+hdr<=n/\0<hdr/\q<=8*(p+hdr):=by
   unfold gI at h;rw[hP] at h;dsimp only at h;by_cases t:n<p+hdr
   ·rw[ai t] at h;cases h
   rw[ah t] at h;by_cases g:d (p+hdr-1)=0
   ·rw[ai g] at h;cases h
   rw[ah g] at h;have J:=(Nat.log2_lt (k:=8) g).2 (hd _)
   by_cases j:jM ((q+7)/8) (8*(p+hdr-1)+Nat.log2 (d (p+hdr-1))) log
   ·rw[ah (fun x=>x j)] at h
    by_cases r:jM ((q+7)/8) (8*(p+hdr-1)+Nat.log2 (d (p+hdr-1))-log) log
    ·unfold jM at j r;omega
    ·rw[ai r] at h;cases h
   ·rw[ai j] at h;cases h
  obtain⟨z,rfl,l⟩:=sU (M:=hdr) aa hP key.2.2
  rw[<- DY hd hP l key.2.1 key.1];exact h
theorem BP {d:Nat->Nat} {n p hdr:Nat} {w:Nat->Nat} {c:Nat} (hd:∀i,d i<256) (r:p+hdr<=n) (h:pv (aX d p) hdr=some (w,c)):gI d n p hdr=some (w,c):=by
 cases hP':eI false (aX d p) hdr 6 255 0 with
 | none=>unfold pv at h;rw[hP'] at h;cases h
 | some P =>
  obtain⟨log,sh,z,q⟩:=P;obtain⟨A,C,B,t,F,y,u⟩:=kq aa hP';have key:(q+7)/8+2<=hdr:=by
   unfold pv at h;rw[hP'] at h;dsimp only at h;by_cases l:hdr<=(q+7)/8
   ·rw[ai l] at h;cases h
   rw[ah l] at h;by_cases g:aX d p (hdr-1)=0
   ·rw[ai g] at h;cases h
   rw[ah g] at h;have H:=(Nat.log2_lt (k:=8) g).2 (hd _)
   by_cases j:dU (aX d p) (hdr-1)<8*((q+7)/8)+log+log
   ·rw[ai j] at h;cases h
   unfold dU at j;omega
  rw[DY hd (qX aa hP' aa) hP' aa r];exact h
theorem px {w v:Nat->Nat} {n tb:Nat} {old:Nat->Nat} (h:∀i,i<n->w i=v i):∀m,m<=n->dP w n tb old m=dP v n tb old m
 | 0,_=>rfl
 | m+1,hm=>by
  have e:fg w n m=fg v n m:=by
   unfold fg;rw[h m aa,gT n h,n7 m fun i hi=>h i aa]
  rw[dP,dP,px h m aa,h m aa,e]
theorem BQ {w v:Nat->Nat} {c k:Nat} (h:∀i,i<c->w i=v i):((List.range c).any fun i=>decide (k<w i))=((List.range c).any fun i=>decide (k<v i)):=by
 rw[Bool.eq_iff_iff,List.any_eq_true,List.any_eq_true]
 constructor
 ·rintro⟨i,hi,g⟩;exact⟨i,hi,by rw[<- h i (List.mem_range.1 hi)];exact g⟩
 ·rintro⟨i,hi,g⟩;exact⟨i,hi,by rw[h i (List.mem_range.1 hi)];exact g⟩
theorem nS {w v:Nat->Nat} {c:Nat} (h:∀i,i<c->w i=v i):d_ w c=d_ v c:=by
 unfold d_
 rw[BQ h,gT c h]
 dsimp only
 have e:∀y tb,dP (cV w c y) (c+1) tb (fun _=>0) (c+1)=dP (cV v c y) (c+1) tb (fun _=>0) (c+1):=fun y tb=>px (fun i hi=>by
  unfold cV;split
  ·rfl
  ·exact h i aa) _ (aZ _)
 simp only[e]
theorem uv (w:Nat->Nat) {k:Nat} (i:1<=k):∀n,aM w n k%2=bW w n 1%2
 | 0=>rfl
 | n+1=>by
  rw[aM,bW];have p:=uv w i n
  by_cases g:w n=1
  ·rw[ai g,ah aa,g];omega
  ·rw[ah g];by_cases h:w n=0\/k<w n
   ·rw[ai h];omega
   ·rw[ah h];obtain⟨j,l⟩:∃j,w n-1=j+1:=⟨w n-2,aa⟩
    rw[l,Nat.pow_succ];omega
theorem BR {w:Nat->Nat} {c:Nat} {w':Nat->Nat} {tb:Nat} (h:me w c=some (w',tb)):d_ w c=some ⟨tb,dP w' (c+1) tb (fun _=>0) (c+1)⟩:=by
 unfold me at h
 by_cases q:((List.range c).any fun i=>decide (12<w i))=true
 ·rw[ai q] at h;cases h
 rw[ah q] at h
 dsimp only at h
 by_cases l:aM w c 12=0
 ·rw[ai l] at h;cases h
 rw[ah l] at h
 by_cases r:11<Nat.log2 (aM w c 12)+1
 ·rw[ai r] at h;cases h
 rw[ah r] at h
 by_cases p:2^Nat.log2 (2^(Nat.log2 (aM w c 12)+1)-aM w c 12)≠2^(Nat.log2 (aM w c 12)+1)-aM w c 12
 ·rw[ai p] at h;cases h
 rw[ah p] at h
 by_cases t:256<=c
 ·rw[ai t] at h;cases h
 rw[ah t] at h
 split at h
 ·cases h
 cases h
 have j:∀i,i<c->w i<=12:=fun i hi=>Nat.le_of_not_lt fun h=>q (List.any_eq_true.2 ⟨i,List.mem_range.2 hi,decide_eq_true h⟩)
 have u:aM w c 12<2^11:=(Nat.log2_lt l).1 aa
 have g:∀i,i<c->w i<=11:=fun i hi=>by
  rcases Nat.lt_or_ge 11 (w i) with h|h
  ·have e:w i=12:=by have:=j i hi;omega
   have:=mE w (k:=12) (i:=i) aa aa c hi
   rw[e] at this;omega
  ·exact h
 have hb:aM w c 11=aM w c 12:=jx w c fun i hi=>⟨g i hi,j i hi⟩
 unfold d_
 rw[ah (fun h=>by
  obtain⟨i,hi,y⟩:=List.any_eq_true.1 h;have:=g i (List.mem_range.1 hi)
  have:=of_decide_eq_true y
  omega)]
 dsimp only
 rw[hb,ah l,ah (fun h=>h.elim r p)]
theorem yQ {w:Nat->Nat} {c:Nat} {t:jR} (hc:c<=255) (h:d_ w c=some t) (ht:t.most<=t.tab 0%256):∃w',me w c=some (w',t.most)/\t.tab=dP w' (c+1) t.most (fun _=>0) (c+1):=by
 unfold d_ at h
 by_cases C:((List.range c).any fun i=>decide (11<w i))=true
 ·rw[ai C] at h;cases h
 rw[ah C] at h
 dsimp only at h
 by_cases z:aM w c 11=0
 ·rw[ai z] at h;cases h
 rw[ah z] at h
 by_cases l:11<Nat.log2 (aM w c 11)+1\/2^Nat.log2 (2^(Nat.log2 (aM w c 11)+1)-aM w c 11)≠2^(Nat.log2 (aM w c 11)+1)-aM w c 11
 ·rw[ai l] at h;cases h
 rw[ah l] at h
 have l:=not_or.1 l
 cases h
 have g:∀i,i<c->w i<=11:=fun i hi=>Nat.le_of_not_lt fun h=>C (List.any_eq_true.2 ⟨i,List.mem_range.2 hi,decide_eq_true h⟩)
 have hb:aM w c 12=aM w c 11:=jx w c fun i hi=>⟨by have:=g i hi;omega,g i hi⟩
 obtain⟨tb,q⟩:∃tb,tb=Nat.log2 (aM w c 11)+1:=⟨_,rfl⟩
 obtain⟨lf,u⟩:∃lf,lf=2^tb-aM w c 11:=⟨_,rfl⟩
 rw[<- q,<- u] at l ht ⊢
 obtain⟨hg,r⟩:∃hg,hg=Nat.log2 lf:=⟨_,rfl⟩
 rw[<- r] at l ht ⊢
 have h4:=Decidable.not_not.1 l.2
 have H:=Nat.lt_log2_self (n:=aM w c 11)
 rw[<- q] at H
 dsimp only at ht ⊢
 refine⟨cV w c (hg+1),?_,rfl⟩
 unfold me
 rw[ah (fun h=>by
  obtain⟨i,hi,K⟩:=List.any_eq_true.1 h;have:=g i (List.mem_range.1 hi)
  have:=of_decide_eq_true K
  omega)]
 dsimp only
 rw[hb,ah z,<- q,ah l.1,<- u,<- r,ah l.2,ah aa]
 have y:∀i,i<c+1->cV w c (hg+1) i<=tb:=fun i hi=>by
  by_cases J:i=c
  ·rw[J,bL];have F:2^hg<2^tb:=aa
   have:=(Nat.pow_lt_pow_iff_right (a:=2) aa).1 F
   omega
  ·rw[bz _ _ _ _ J];by_cases h0:w i=0
   ·omega
   ·have K:=mE w h0 (g i aa) c aa
    have F:2^(w i-1)<2^tb:=aa
    have:=(Nat.pow_lt_pow_iff_right (a:=2) aa).1 F
    omega
 have p:aM (cV w c (hg+1)) (c+1) tb=2^tb:=by
  have I:=y c aa
  rw[bL] at I;rw[aM,gT (w':=w) c (fun i hi=>bz _ _ _ _ aa),bL,ah aa,Nat.add_sub_cancel,jx w (k:=tb) (k':=11) c (fun i hi=>⟨by have:=y i aa;rw[bz _ _ _ _ aa] at this;exact this,g i hi⟩)]
  omega
 have B:=uv (cV w c (hg+1)) (k:=tb) aa (c+1)
 rw[p] at B
 have W:2^tb%2=0:=by
  obtain⟨j,V⟩:∃j,tb=j+1:=⟨tb-1,aa⟩
  rw[V,Nat.pow_succ];omega
 obtain⟨i,U,i2,Y,O⟩:=gq (old:=fun _=>0) p (Nat.two_pow_pos tb)
 rw[O] at ht
 have A:cV w c (hg+1) i=1:=by
  have:=Y.1
  omega
 have M:1<=bW (cV w c (hg+1)) (c+1) 1:=by
  have:=np (cV w c (hg+1)) 1 (i:=i+1) (c+1) U
  rw[bW,ai A] at this;omega
 rw[ah aa]
structure vK (most:Nat) (tab:Nat->Nat):Prop where
 m1:1<=most
 m11:most<=11
 ge:∀p,p<2^most->1<=tab p%256
 le:∀p,p<2^most->tab p%256<=most
 sym:∀p,p<2^most->tab p/256<256
 pfx:∀p p',p<2^most->p'<2^most->p/2^(most-tab p%256)=p'/2^(most-tab p%256)->tab p'=tab p
theorem uw {w:Nat->Nat} {n:Nat}:∀j k,2^k∣aM w n (k+j)-aM w n k
 | 0,k=>by rw[Nat.add_zero,Nat.sub_self];exact Nat.dvd_zero _
 | j+1,k=>by
  have g:=uw (w:=w) (n:=n) j k
  have i:=iG w (k+j) n
  have h:=gg w (k:=k) (k':=k+j) aa n
  rw[show k+(j+1)=(k+j)+1 from aa,i,Nat.add_comm (aM w n (k+j)),Nat.add_sub_assoc h];refine Nat.dvd_add ?_ g
  exact Nat.dvd_trans (Nat.pow_dvd_pow 2 aa) (Nat.dvd_mul_left _ _)
theorem BS {w:Nat->Nat} {n tb:Nat} {old:Nat->Nat} (J:n<=256) (A:1<=tb) (q:tb<=11) (hs:aM w n tb=2^tb):vK tb (dP w n tb old n) where
 m1:=A
 m11:=q
 ge p hp:=by obtain⟨i,l,i2,g,h⟩:=gq (old:=old) hs hp;rw[h];have:=g.1;omega
 le p hp:=by obtain⟨i,l,i2,g,h⟩:=gq (old:=old) hs hp;rw[h];have:=g.1;omega
 sym p hp:=by obtain⟨i,l,i2,g,h⟩:=gq (old:=old) hs hp;rw[h];have:=g.1;omega
 pfx p p' hp hp' he:=by
  obtain⟨i,l,i2,g,h⟩:=gq (old:=old) hs hp
  have h0:=g.1
  have F:tb-dP w n tb old n p%256=w i-1:=by rw[h];omega
  rw[F] at he;have r:2^(w i-1)∣fg w n i:=by
   have t:=uw (w:=w) (n:=n) (tb-(w i-1)) (w i-1)
   rw[show w i-1+(tb-(w i-1))=tb from aa,hs] at t;have u:=gg w (k:=w i-1) (k':=tb) aa n
   rw[hs] at u;have z:2^(w i-1)∣2^tb:=Nat.pow_dvd_pow 2 aa
   have B:2^(w i-1)∣aM w n (w i-1):=by
    have:=Nat.dvd_sub z t
    rwa[Nat.sub_sub_self u] at this
   unfold fg;exact Nat.dvd_add B (Nat.dvd_mul_left _ _)
  obtain⟨m,M⟩:=r;have j:=Nat.two_pow_pos (w i-1)
  have I:=g.2.1
  have K:=g.2.2
  have y:p/2^(w i-1)=m:=Nat.div_eq_of_lt_le (by rw[Nat.mul_comm];omega) (by rw[Nat.add_mul,Nat.one_mul,Nat.mul_comm];omega)
  rw[y] at he;have C:=Nat.div_add_mod p' (2^(w i-1))
  have H:=Nat.mod_lt p' j
  rw[<- he] at C;rw[h,iY l ⟨h0,aa,aa⟩ n l (aZ _)]
end Go.Proofs.YtogmacnlpclgkaaGreatDoor
namespace Go.Proofs.YtogmacnlpclgkaaGreatDoor
open Go Go.Eng Go.Pz
attribute [local irreducible] RO J av aO
set_option maxRecDepth 20000
variable {G:ao} {d:Nat->Nat}
theorem ux {w:Nat->Nat} {c tb hg:Nat} (h:∀i,i<c->w i<=11) (p:tb=Nat.log2 (aM w c 11)+1) (y:2^hg=2^tb-aM w c 11) (u:aM w c 11≠0) :
  (∀i,i<c+1->cV w c (hg+1) i<=tb)/\aM (cV w c (hg+1)) (c+1) tb=2^tb:=by
 have l:=Nat.lt_log2_self (n:=aM w c 11)
 rw[<- p] at l
 have g:∀i,i<c+1->cV w c (hg+1) i<=tb:=fun i hi=>by
  by_cases r:i=c
  ·rw[r,bL];have j:2^hg<2^tb:=aa
   have:=(Nat.pow_lt_pow_iff_right (a:=2) aa).1 j
   omega
  ·rw[bz _ _ _ _ r];by_cases h0:w i=0
   ·omega
   ·have t:=mE w h0 (h i aa) c aa
    have j:2^(w i-1)<2^tb:=aa
    have:=(Nat.pow_lt_pow_iff_right (a:=2) aa).1 j
    omega
 refine⟨g,?_⟩
 have q:=g c aa
 rw[bL] at q
 rw[aM,gT (w':=w) c (fun i hi=>bz _ _ _ _ aa),bL,ah aa,Nat.add_sub_cancel,jx w (k:=tb) (k':=11) c (fun i hi=>⟨by have:=g i aa;rw[bz _ _ _ _ aa] at this;exact this,h i hi⟩)]
 omega
def lY (g:Option Addr) (j:Nat) (h:Option Addr) (i n most:Nat):bk:=aj [.slice g n j,.slice h n i,ay most] 120
def sW (T:jR):Nat->Value:=fun q=>.int .i64 ((T.tab q/256:Nat):Int)
def rh (T:jR):Nat->Value:=fun q=>.int .i64 ((T.tab q%256:Nat):Int)
def sX (t:Option jR) (p:Option Addr) (m:ao):Prop:=match t with
 | none=>p=none/\m=[]
 | some T=>∃pb h i j k sm g,p=some ⟨pb,0,none⟩/\m=(pb,lY h i j k (2^T.most) T.most)::(sm++g)/\dH 1 (.slice h (2^T.most) i) (2^T.most) (sW T) sm/\dH 1 (.slice j (2^T.most) k) (2^T.most) (rh T) g
structure IX where
 L:Nat
 sa:Option Addr
 sc:Nat
 ba:Option Addr
 bc:Nat
 sm:ao
 bm:ao
 j:ao
def Kc (T:jR) (L:Nat) (t:IX):Prop:=t.L=L/\dH 1 (.slice t.sa L t.sc) L (sW T) t.sm/\dH 1 (.slice t.ba L t.bc) L (rh T) t.bm
abbrev IX.mem (t:IX) (pb:Nat) (most:Nat) (h:Nat) (g:bk):ao:=(pb,lY t.sa t.sc t.ba t.bc t.L most)::(h,g)::(t.sm++(t.bm++t.j))
set_option maxHeartbeats 1000000 in
theorem D0 (oa:Option Addr) (c cp:Nat) (w:Nat->Nat) (hv:fR G oa c cp (fun i=>((w i:Nat):Int))) (hc:c<=255) :
  av Tryz.prog G 70 #[.slice oa c cp] [] (fun v m=>match d_ w c with
   | none=>v = .tuple #[.pointer none,.bool false]
   | some T=>∃p,v = .tuple #[.pointer p,.bool true]/\sX (some T) p m):=by
 refine bE Tryz.func70 fun c0 h0 hex=>?_
 unfold d_
 refine go ?_
 refine aH (σ:=Nat) [] (fun i=>[(0,.slice oa c cp),(4,.int .i64 (aM w i 11:Nat)),(14,.slice oa c cp),(15,ay c),(16,ay i),(51,undef),(52,undef),(53,undef),(54,undef),(55,undef),(56,undef),(57,undef),(58,undef)]) (fun _=>[]) (fun i=>i<=c/\∀j,j<i->w j<=11) (fun i=>c-i) 0 (.refl _) ⟨Nat.zero_le _,fun _ h=>absurd h (Nat.not_lt_zero _)⟩ ?_
 rintro i f ⟨hi,bq⟩
 have hS:aM w i 11<=2^20:=by
  have h1:=sF w 11 i
  have h2:i*2^(11-1)<=255*2^10:=Nat.mul_le_mul_right _ aa
  omega
 refine go ?_
 refine ac rfl (fun eh=>?_) (fun eB=>?_)
 ·have b6:i<c:=aa
  obtain⟨b,o,B,rfl,hB,c4,a2⟩:=hv.some aa;refine go ?_;refine aK (v:=.int .i64 (w i:Nat)) rfl rfl (List.mem_append.2 (.inr hB)) aa (a2 i b6) rfl ?_
  refine go ?_;refine ac rfl (fun cd=>?_) (fun ec=>?_)
  ·rw[ai (List.any_eq_true.2 ⟨i,List.mem_range.2 b6,decide_eq_true aa⟩)];refine go ?_;exact af (bx [2,3] rfl)
  have b9:∀j,j<i+1->w j<=11:=fun j hj=>by
   by_cases he:j=i
   ·subst he;omega
   ·exact bq j aa
  have b2:aM w (i+1) 11=aM w i 11+if w i=0\/11<w i then 0 else 2^(w i-1):=rfl
  refine go ?_;refine nv (σ:=Unit) (fun _=>[(0,.slice (some ⟨b,o,none⟩) c cp),(4,.int .i64 (aM w (i+1) 11:Nat)),(14,.slice (some ⟨b,o,none⟩) c cp),(15,ay c),(16,ay i),(51,undef),(52,undef),(53,undef),(54,undef),(55,undef),(56,undef),(57,undef),(58,undef)]) (fun _=>[]) (fun _=>True) ?_ ?_
  ·refine ac rfl (fun d0=>?_) (fun hz=>?_)
   ·have hp:2^(w i-1)<=2^10:=Nat.pow_le_pow_right aa aa
    have d2:1*2^(w i-1)<2^63:=aa
    refine go ?_;rw[Nat.one_mul];exact⟨(),trivial,⟨rfl,by show Value.int .i64 _=Value.int .i64 _;rw[b2,ah aa],rfl,rfl,rfl,rfl,rfl,rfl,rfl,rfl,rfl,rfl,rfl,trivial⟩,.refl _⟩
   ·refine go ?_;exact⟨(),trivial,⟨rfl,by show Value.int .i64 _=Value.int .i64 _;rw[b2,ai aa];rfl,rfl,rfl,rfl,rfl,rfl,rfl,rfl,rfl,rfl,rfl,rfl,trivial⟩,.refl _⟩
  rintro _ f -;refine go ?_;exact⟨i+1,aa,⟨aa,b9⟩,cF,.refl _⟩
 obtain rfl:i=c:=aa
 rw[ah (fun h=>by
  obtain⟨j,hj,h6⟩:=List.any_eq_true.1 h;have:=bq j (List.mem_range.1 hj)
  have:=of_decide_eq_true h6
  omega)]
 dsimp only
 refine go ?_
 obtain⟨S,a0⟩:∃S,S=aM w i 11:=⟨_,rfl⟩
 rw[<- a0] at hS ⊢
 refine ac rfl (fun hz=>?_) (fun es=>?_)
 ·rw[ai aa];refine go ?_;exact af (bx [2,3] rfl)
 have a5:S≠0:=aa
 rw[ah a5]
 obtain⟨tb,a9⟩:∃tb,tb=Nat.log2 S+1:=⟨_,rfl⟩
 rw[<- a9]
 have cm:2^Nat.log2 S<=S:=Nat.log2_self_le a5
 have eo:S<2^tb:=by rw[a9];exact Nat.lt_log2_self
 have cN:tb<=21:=by
  have h2:2^Nat.log2 S<=2^20:=Nat.le_trans cm hS
  have:=(Nat.pow_le_pow_iff_right (by omega:1<2)).1 h2
  omega
 refine go ?_
 refine aH (σ:=Nat) [] (fun k=>[(0,.slice oa i cp),(4,ay S),(7,ay k),(51,undef),(52,undef),(53,undef),(54,undef),(55,undef),(56,undef),(57,undef),(58,undef)]) (fun _=>[]) (fun k=>1<=k/\k<=tb) (fun k=>tb-k) 1 (.refl _) ⟨aZ _,aa⟩ ?_
 rintro k f ⟨cx,c6⟩
 have et:2^k<=2^21:=Nat.pow_le_pow_right aa aa
 have d5:1*2^k<2^63:=aa
 refine go ?_
 rw[Nat.one_mul]
 refine ac rfl (fun a6=>?_) (fun bo=>?_)
 ·have bv:k≠tb:=by rintro rfl;omega
  refine go ?_;exact⟨k+1,aa,⟨aa,aa⟩,cF,.refl _⟩
 obtain rfl:k=tb:=by
  by_cases he:k=tb
  ·exact he
  ·exfalso
   have:2^k<=2^Nat.log2 S:=Nat.pow_le_pow_right aa aa
   omega
 clear cx c6 bo
 obtain⟨lf,a4⟩:∃lf,lf=2^k-S:=⟨_,rfl⟩
 rw[<- a4]
 have dt:1<=lf:=aa
 obtain⟨hg,a3⟩:∃hg,hg=Nat.log2 lf:=⟨_,rfl⟩
 rw[<- a3]
 have d3:2^hg<=lf:=by rw[a3];exact Nat.log2_self_le aa
 have d6:lf<2^(hg+1):=by rw[a3];exact Nat.lt_log2_self
 have eL:hg<=k:=by
  have h7:2^hg<=2^k:=aa
  exact(Nat.pow_le_pow_iff_right (a:=2) aa).1 h7
 refine go ?_
 refine aH (σ:=Nat) [] (fun l=>[(0,.slice oa i cp),(4,ay S),(7,ay k),(8,ay l),(51,undef),(52,undef),(53,undef),(54,undef),(55,undef),(56,undef),(57,undef),(58,undef)]) (fun _=>[]) (fun l=>1<=l/\l<=hg+2/\(l=hg+2->lf≠2^hg)) (fun l=>hg+2-l) 1 (.refl _) ⟨aZ _,aa,fun h=>aa⟩ ?_
 rintro l f ⟨ee,ev,b4⟩
 have c3:2^(l-1)<=2^22:=Nat.pow_le_pow_right aa aa
 have b5:1*2^(l-1)<2^63:=aa
 refine go ?_
 rw[Nat.one_mul,Nat.one_mul,<- a4]
 refine ac rfl (fun a6=>?_) (fun bo=>?_)
 ·have bv:l≠hg+2:=by
   rintro rfl;rw[show hg+2-1=hg+1 from aa] at a6;omega
  have cc:l=hg+1->lf≠2^hg:=by
   rintro rfl;rw[Nat.add_sub_cancel] at a6;omega
  refine go ?_;exact⟨l+1,aa,⟨aa,aa,fun h=>cc aa⟩,cF,.refl _⟩
 have bb:(lf=2^hg/\l=hg+1)\/(lf≠2^hg/\2^(l-1)≠lf):=by
  by_cases he:lf=2^hg
  ·left
   refine⟨he,?_⟩
   by_cases h1:l=hg+2
   ·exact absurd he (b4 h1)
   by_cases h2:l=hg+1
   ·exact h2
   exfalso
   have:2^(l-1)<2^hg:=Nat.pow_lt_pow_right aa aa
   omega
  ·right
   refine⟨he,fun h=>he ?_⟩
   have:Nat.log2 lf=l-1:=by rw[<- h];exact Nat.log2_two_pow
   rw[a3,this,h]
 clear b4
 refine go ?_
 refine aJ 50 rfl (fun cd=>?_) (fun ce=>?_)
 ·rw[ai (.inl aa)];refine go ?_;exact af (bx [2,3] rfl)
 refine go ?_
 rw[Nat.one_mul,Nat.one_mul,<- a4]
 refine ac rfl (fun cn=>?_) (fun d7=>?_)
 ·have b7:2^hg≠lf:=by
   rcases bb with⟨h1,rfl⟩|⟨h1,h2⟩
   ·rw[Nat.add_sub_cancel] at cn;omega
   ·omega
  rw[ai (.inr b7)];refine go ?_;exact af (bx [2,3] rfl)
 obtain⟨h4,rfl⟩:lf=2^hg/\l=hg+1:=by
  rcases bb with h|⟨h1,h2⟩
  ·exact h
  ·omega
 rw[ah aa]
 dsimp only
 obtain⟨cb,ad⟩:=ux (tb:=k) (hg:=hg) bq (by rw[<- a0];exact a9) (by rw[<- h4,<- a0];exact a4) (by rw[<- a0];exact a5)
 obtain⟨w',bd⟩:∃w',w'=cV w i (hg+1):=⟨_,rfl⟩
 rw[<- bd] at cb ad ⊢
 clear bb b5 c3
 refine go ?_
 have cw:0<i:=by
  rcases Nat.eq_zero_or_pos i with h|h
  ·exfalso;subst h;exact a5 a0
  ·exact h
 obtain⟨b,o,B,rfl,hB,c4,a2⟩:=hv.some cw
 refine bg (s:=0) (src:=fun j=>B.g (o+j)) (k:=i) (len:=0) (v:=.slice none 0 0) (cl:=fun _=>undef) (sm:=[]) (fm:=[]) rfl rfl rfl rfl z3 (by decide) rfl rfl (.inl ⟨rfl,rfl,rfl⟩)
  (.refl _) (k_.of (B:=B) (List.mem_append.2 (.inr hB)) aa) (fun x hx=>by rw[a2 x aa];rfl) aa hex rfl ?_
 intro v1 dl aw br
 clear br
 obtain⟨cS,dc,rfl⟩:=bV aw
 refine go ?_
 refine au (z:=.int .i64 0) (vs:=[.int .i64 ((hg+1:Nat):Int)]) rfl rfl z3 rfl rfl rfl rfl hex fun sb er=>?_
 refine go ?_
 refine bg (s:=0) (src:=fun x=>(aj [.int .i64 ((hg+1:Nat):Int)] 3).g (0+x)) (k:=1) (len:=0+i) (v:=.slice cS (0+i) dc) (cl:=_) (sm:=dl) (fm:=[(sb,aj [.int .i64 ((hg+1:Nat):Int)] 3)]) rfl rfl rfl rfl z3 (by decide) rfl rfl aw
  an (k_.of (B:=aj [.int .i64 ((hg+1:Nat):Int)] 3) (by simp) (by show 0+1*(0+1)<=1;decide)) (fun x hx=>by rw[show x=0 from by have h:x<1:=hx;omega];rfl) aa hex rfl ?_
 intro v2 wm a1 bs
 clear bs
 obtain⟨wa,wc,rfl⟩:=bV a1
 have cu:dH 1 (.slice wa (i+1) wc) (i+1) (fun q=>.int .i64 ((w' q:Nat):Int)) wm:=by
  rw[show 0+i+1=i+1 from aa] at a1;refine bR a1 fun x hx=>?_
  have hx:x<(i+1)*(0+1):=hx
  by_cases ab:x<i
  ·rw[ai aa,ah aa,show x-0*(0+1)=x from aa,a2 x ab,bd,bz _ _ _ _ aa]
  ·obtain rfl:x=i:=aa;rw[ah aa,bd,bL,show x-(0+x)*(0+1)=0 from aa];rfl
 clear aw a1
 rw[Nat.zero_add]
 rcases cu with⟨_,h,_⟩|⟨C,wo,ex,WB,cq,rfl,da,b3,e0,c5⟩
 ·omega
 have c8:∀q,q<i+1->wo+q<WB.n:=fun q hq=>aa
 clear b3 da
 cases cq
 refine go ?_
 refine bU (vs:=[.slice none 0 0,.slice none 0 0,ay k]) rfl rfl z120 rfl rfl rfl rfl ?_
 refine go ?_
 refine kw rfl rfl rfl hex fun pb eb=>?_
 refine go ?_
 obtain⟨T,hT⟩:∃T:jR,T=⟨k,dP w' (i+1) k (fun _=>0) (i+1)⟩:=⟨_,rfl⟩
 rw[<- hT]
 have bu:T.most=k:=by rw[hT]
 have ca:∀s v j,s<i+1->w' s=v+1->j<2^v->T.tab (aM w' (i+1) v+bW w' s (v+1)*2^v+j)=s*256+(k-v):=by
  intro s v j hs hv hj;rw[hT];have hr:mG w' (i+1) s (aM w' (i+1) v+bW w' s (v+1)*2^v+j):=by
   refine⟨aa,?_,?_⟩<;>unfold fg<;>rw[hv,Nat.add_sub_cancel]<;>omega
  show dP _ _ _ _ _ _=_
  rw[iY (tb:=k) (old:=fun _=>0) hs hr (i+1) hs (aZ _),hv]
  omega
 have b8:∀s v,s<i+1->w' s=v+1->aM w' (i+1) v+bW w' s (v+1)*2^v+2^v<=2^k:=by
  intro s v hs hv;have h1:=nq w' (n:=i+1) (i:=s) (k:=k) hs aa (cb s hs)
  unfold fg at h1;rw[hv,Nat.add_sub_cancel,ad] at h1;exact h1
 have d8:2^k<=2^11:=Nat.pow_le_pow_right aa aa
 refine aH (σ:=IX×Nat) [] (fun t=>[(7,ay k),(9,.slice (some ⟨C,wo,none⟩) (i+1) wc),(10,bf pb),(11,.int .i64 ((t.2+1:Nat):Int))]) (fun t=>t.1.mem pb k C WB) (fun t=>t.2<=k/\Kc T (aM w' (i+1) t.2) t.1) (fun t=>k-t.2) (⟨0,none,0,none,0,[],[],[(sb,aj [.int .i64 ((hg+1:Nat):Int)] 3)]⟩,0) (.cons rfl (.of_perm an)) ⟨Nat.zero_le _,(iF w' (i+1)).symm,by rw[iF];exact .inl ⟨rfl,rfl,rfl⟩,by rw[iF];exact .inl ⟨rfl,rfl,rfl⟩⟩ ?_
 rintro⟨⟨L,I,F,J,H,sm,Y,jk⟩,v⟩ f ⟨aw,y,r,u⟩
 dsimp only at aw y r u ⊢
 subst y
 refine go ?_
 refine ac rfl (fun a6=>?_) (fun bo=>?_)
 ·refine go ?_;refine aH (σ:=IX×Nat) [] (fun t=>[(7,ay k),(9,.slice (some ⟨C,wo,none⟩) (i+1) wc),(10,bf pb),(11,.int .i64 ((v+1:Nat):Int)),(73,.slice (some ⟨C,wo,none⟩) (i+1) wc),(74,.int .i64 ((i+1:Nat):Int)),(75,ay t.2)]) (fun t=>t.1.mem pb k C WB) (fun t=>t.2<=i+1/\Kc T (aM w' (i+1) v+bW w' t.2 (v+1)*2^v) t.1) (fun t=>i+1-t.2) (⟨aM w' (i+1) v,I,F,J,H,sm,Y,jk⟩,0) (.refl _) ⟨Nat.zero_le _,by show _=_+0*_;rw[Nat.zero_mul];rfl,by show dH 1 (.slice I (_+0*_) F) (_+0*_) _ _;rw[Nat.zero_mul];exact r,by show dH 1 (.slice J (_+0*_) H) (_+0*_) _ _;rw[Nat.zero_mul];exact u⟩ ?_
  clear r u;rintro⟨⟨L,I,F,J,H,sm,Y,jk⟩,s⟩ f ⟨c7,y,r,u⟩;dsimp only at c7 y r u ⊢;subst y;refine go ?_;refine ac rfl (fun d1=>?_) (fun ds=>?_)
  ·have a7:s<i+1:=aa
   refine go ?_;refine aF (B:=WB) (v:=.int .i64 (w' s:Nat)) rfl rfl (.there .here) (c8 s a7) (c5 s aa) rfl ?_
   refine go ?_;refine ac rfl (fun bv=>?_) (fun eq=>?_)
   ·have cr:bW w' (s+1) (v+1)=bW w' s (v+1):=by rw[bW,ah aa,Nat.add_zero]
    refine go ?_;exact⟨(⟨_,I,F,J,H,sm,Y,jk⟩,s+1),by dsimp only;omega,⟨by dsimp only;omega,by dsimp only;rw[cr];exact⟨rfl,r,u⟩⟩,cF,.refl _⟩
   have be:w' s=v+1:=aa
   have c1:bW w' (s+1) (v+1)=bW w' s (v+1)+1:=by rw[bW,ai be]
   have c2:=b8 s v a7 be
   have ax:=fun j=>ca s v j a7 be
   have ea:1*2^(v+1-1)<2^63:=by rw[Nat.add_sub_cancel];omega
   obtain⟨L0,a8⟩:∃L0,L0=aM w' (i+1) v+bW w' s (v+1)*2^v:=⟨_,rfl⟩
   rw[<- a8] at r u c2 ⊢;have ax:∀j,j<2^v->T.tab (L0+j)=s*256+(k-v):=fun j hj=>by rw[a8];exact ax j hj
   refine go ?_;rw[Nat.add_sub_cancel,Nat.one_mul];refine aH (σ:=IX×Nat) [] (fun t=>[(7,ay k),(9,.slice (some ⟨C,wo,none⟩) (i+1) wc),(10,bf pb),(11,.int .i64 ((v+1:Nat):Int)),(12,ay s),(73,.slice (some ⟨C,wo,none⟩) (i+1) wc),(74,.int .i64 ((i+1:Nat):Int)),(75,ay s),(85,.int .i64 ((2^v:Nat):Int)),(86,ay t.2)]) (fun t=>t.1.mem pb k C WB) (fun t=>t.2<=2^v/\Kc T (L0+t.2) t.1) (fun t=>2^v-t.2) (⟨L0,I,F,J,H,sm,Y,jk⟩,0) (.refl _) ⟨Nat.zero_le _,rfl,r,u⟩ ?_
   clear r u;rintro⟨⟨L,I,F,J,H,sm,Y,jk⟩,j⟩ f ⟨ch,y,r,u⟩;dsimp only at ch y r u ⊢;rw[<- y] at r u;refine go ?_;refine ac rfl (fun d4=>?_) (fun dm=>?_)
   ·have bt:j<2^v:=aa
    refine fW ?_;dsimp only[fE];refine dk ?_;refine uM ?_;refine bZ (m':=(sm++(Y++((C,WB)::jk)))++[(pb,lY I F J H L k)]) (.of_perm an) ?_
    refine nu mixed_ok (qs:=qsT) [(pb,lY I F J H L k)] 4128 1966464 [0,1,2,3,4,5,6,9,10,11,12,13,14,15,16] (.fk [] 7 17 (.fk [7] 8 17 (.fin [8,17,18,19,20] [21,22,23,24]) (.fin [17,8,18,19,20] [21,22,23,24])) (.fin [17,7,8,18,19,20] [21,22,23,24])) rfl (by kernel_rfl) ?_
    refine go ?_;refine⟨rfl,_,rfl,kt ⟨?_,?_⟩⟩
    ·refine⟨_,rfl,?_⟩
     refine go ?_;refine au (z:=.int .i64 0) (vs:=[ay s]) rfl rfl z3 rfl rfl rfl rfl hex fun xb cs=>?_
     refine kt ⟨?_,?_⟩
     ·refine⟨_,_,rfl,rfl,?_⟩
      refine go ?_;refine fZ (s:=0) (src:=fun x=>(aj [ay s] 3).g (0+x)) (k:=1) (len:=L) (v:=.slice I L F) (cl:=sW T) (sm:=sm) (fm:=[(xb,aj [ay s] 3)]++(Y++((C,WB)::jk))) rfl rfl rfl rfl z3 (by decide) rfl rfl r
       an (k_.of (B:=aj [ay s] 3) (by simp) (by show 0+1*(0+1)<=1;decide)) (fun x hx=>by rw[show x=0 from by have h:x<1:=hx;omega];rfl) aa hex rfl ?_
      intro zA sm2 M;obtain⟨U,K,rfl⟩:=bV M;refine go ?_;rw[show k+1-(v+1)=k-v from aa];refine au (z:=.int .i64 0) (vs:=[.int .i64 ((k-v:Nat):Int)]) rfl rfl z3 rfl rfl rfl rfl hex fun yb b1=>?_
      refine go ?_;refine fZ (s:=0) (src:=fun x=>(aj [.int .i64 ((k-v:Nat):Int)] 3).g (0+x)) (k:=1) (len:=L) (v:=.slice J L H) (cl:=rh T) (sm:=Y) (fm:=[(yb,aj [.int .i64 ((k-v:Nat):Int)] 3),(xb,aj [ay s] 3)]++(sm2++((C,WB)::jk))) rfl rfl rfl rfl z3 (by decide) rfl rfl u
       an (k_.of (B:=aj [.int .i64 ((k-v:Nat):Int)] 3) (by simp) (by show 0+1*(0+1)<=1;decide)) (fun x hx=>by rw[show x=0 from by have h:x<1:=hx;omega];rfl) aa hex rfl ?_
      intro zB bm2 O;obtain⟨V,bc2,rfl⟩:=bV O;refine go ?_;refine bj (m':=(pb,lY I F J H L k)::(C,WB)::(sm2++(bm2++([(yb,aj [.int .i64 ((k-v:Nat):Int)] 3),(xb,aj [ay s] 3)]++jk)))) (.of_perm an) ?_
      refine go ?_;have W:=ax j bt
      have am:dH 1 (.slice U (L+1) K) (L+1) (sW T) sm2:=bR M fun x hx=>by
       have hx:x<(L+1)*(0+1):=hx
       by_cases ab:x<L
       ·rw[ai aa]
       ·obtain rfl:x=L:=aa;rw[ah aa,show x-x*(0+1)=0 from aa];unfold sW;rw[y,W,show(s*256+(k-v))/256=s from aa];rfl
      have al:dH 1 (.slice V (L+1) bc2) (L+1) (rh T) bm2:=bR O fun x hx=>by
       have hx:x<(L+1)*(0+1):=hx
       by_cases ab:x<L
       ·rw[ai aa]
       ·obtain rfl:x=L:=aa;rw[ah aa,show x-x*(0+1)=0 from aa];unfold rh;rw[y,W,show(s*256+(k-v))%256=k-v from aa];rfl
      exact⟨(⟨L+1,U,K,V,bc2,sm2,bm2,[(yb,aj [.int .i64 ((k-v:Nat):Int)] 3),(xb,aj [ay s] 3)]++jk⟩,j+1),by dsimp only;omega,⟨by dsimp only;omega,by dsimp only;omega,by dsimp only;rw[<- Nat.add_assoc,<- y];exact am,by dsimp only;rw[<- Nat.add_assoc,<- y];exact al⟩,cF,.cons dT (.refl _)⟩
     ·refine⟨_,_,rfl,rfl,?_⟩
      refine go ?_;rw[show k+1-(v+1)=k-v from aa];refine au (z:=.int .i64 0) (vs:=[.int .i64 ((k-v:Nat):Int)]) rfl rfl z3 rfl rfl rfl rfl hex fun yb b1=>?_
      refine go ?_;refine fZ (s:=0) (src:=fun x=>(aj [ay s] 3).g (0+x)) (k:=1) (len:=L) (v:=.slice I L F) (cl:=sW T) (sm:=sm) (fm:=[(yb,aj [.int .i64 ((k-v:Nat):Int)] 3),(xb,aj [ay s] 3)]++(Y++((C,WB)::jk))) rfl rfl rfl rfl z3 (by decide) rfl rfl r
       an (k_.of (B:=aj [ay s] 3) (by simp) (by show 0+1*(0+1)<=1;decide)) (fun x hx=>by rw[show x=0 from by have h:x<1:=hx;omega];rfl) aa hex rfl ?_
      intro zA sm2 M;obtain⟨U,K,rfl⟩:=bV M;refine go ?_;refine fZ (s:=0) (src:=fun x=>(aj [.int .i64 ((k-v:Nat):Int)] 3).g (0+x)) (k:=1) (len:=L) (v:=.slice J L H) (cl:=rh T) (sm:=Y) (fm:=[(yb,aj [.int .i64 ((k-v:Nat):Int)] 3),(xb,aj [ay s] 3)]++(sm2++((C,WB)::jk))) rfl rfl rfl rfl z3 (by decide) rfl rfl u
       an (k_.of (B:=aj [.int .i64 ((k-v:Nat):Int)] 3) (by simp) (by show 0+1*(0+1)<=1;decide)) (fun x hx=>by rw[show x=0 from by have h:x<1:=hx;omega];rfl) aa hex rfl ?_
      intro zB bm2 O;obtain⟨V,bc2,rfl⟩:=bV O;refine go ?_;refine bj (m':=(pb,lY I F J H L k)::(C,WB)::(sm2++(bm2++([(yb,aj [.int .i64 ((k-v:Nat):Int)] 3),(xb,aj [ay s] 3)]++jk)))) (.of_perm an) ?_
      refine go ?_;have W:=ax j bt
      have am:dH 1 (.slice U (L+1) K) (L+1) (sW T) sm2:=bR M fun x hx=>by
       have hx:x<(L+1)*(0+1):=hx
       by_cases ab:x<L
       ·rw[ai aa]
       ·obtain rfl:x=L:=aa;rw[ah aa,show x-x*(0+1)=0 from aa];unfold sW;rw[y,W,show(s*256+(k-v))/256=s from aa];rfl
      have al:dH 1 (.slice V (L+1) bc2) (L+1) (rh T) bm2:=bR O fun x hx=>by
       have hx:x<(L+1)*(0+1):=hx
       by_cases ab:x<L
       ·rw[ai aa]
       ·obtain rfl:x=L:=aa;rw[ah aa,show x-x*(0+1)=0 from aa];unfold rh;rw[y,W,show(s*256+(k-v))%256=k-v from aa];rfl
      exact⟨(⟨L+1,U,K,V,bc2,sm2,bm2,[(yb,aj [.int .i64 ((k-v:Nat):Int)] 3),(xb,aj [ay s] 3)]++jk⟩,j+1),by dsimp only;omega,⟨by dsimp only;omega,by dsimp only;omega,by dsimp only;rw[<- Nat.add_assoc,<- y];exact am,by dsimp only;rw[<- Nat.add_assoc,<- y];exact al⟩,cF,.cons dT (.refl _)⟩
    ·refine⟨_,_,rfl,rfl,?_⟩
     refine go ?_;rw[show k+1-(v+1)=k-v from aa];refine au (z:=.int .i64 0) (vs:=[.int .i64 ((k-v:Nat):Int)]) rfl rfl z3 rfl rfl rfl rfl hex fun yb b1=>?_
     refine go ?_;refine au (z:=.int .i64 0) (vs:=[ay s]) rfl rfl z3 rfl rfl rfl rfl hex fun xb cs=>?_
     refine go ?_;refine fZ (s:=0) (src:=fun x=>(aj [ay s] 3).g (0+x)) (k:=1) (len:=L) (v:=.slice I L F) (cl:=sW T) (sm:=sm) (fm:=[(xb,aj [ay s] 3),(yb,aj [.int .i64 ((k-v:Nat):Int)] 3)]++(Y++((C,WB)::jk))) rfl rfl rfl rfl z3 (by decide) rfl rfl r
      an (k_.of (B:=aj [ay s] 3) (by simp) (by show 0+1*(0+1)<=1;decide)) (fun x hx=>by rw[show x=0 from by have h:x<1:=hx;omega];rfl) aa hex rfl ?_
     intro zA sm2 M;obtain⟨U,K,rfl⟩:=bV M;refine go ?_;refine fZ (s:=0) (src:=fun x=>(aj [.int .i64 ((k-v:Nat):Int)] 3).g (0+x)) (k:=1) (len:=L) (v:=.slice J L H) (cl:=rh T) (sm:=Y) (fm:=[(xb,aj [ay s] 3),(yb,aj [.int .i64 ((k-v:Nat):Int)] 3)]++(sm2++((C,WB)::jk))) rfl rfl rfl rfl z3 (by decide) rfl rfl u
      an (k_.of (B:=aj [.int .i64 ((k-v:Nat):Int)] 3) (by simp) (by show 0+1*(0+1)<=1;decide)) (fun x hx=>by rw[show x=0 from by have h:x<1:=hx;omega];rfl) aa hex rfl ?_
     intro zB bm2 O;obtain⟨V,bc2,rfl⟩:=bV O;refine go ?_;refine bj (m':=(pb,lY I F J H L k)::(C,WB)::(sm2++(bm2++([(xb,aj [ay s] 3),(yb,aj [.int .i64 ((k-v:Nat):Int)] 3)]++jk)))) (.of_perm an) ?_
     refine go ?_;have W:=ax j bt
     have am:dH 1 (.slice U (L+1) K) (L+1) (sW T) sm2:=bR M fun x hx=>by
      have hx:x<(L+1)*(0+1):=hx
      by_cases ab:x<L
      ·rw[ai aa]
      ·obtain rfl:x=L:=aa;rw[ah aa,show x-x*(0+1)=0 from aa];unfold sW;rw[y,W,show(s*256+(k-v))/256=s from aa];rfl
     have al:dH 1 (.slice V (L+1) bc2) (L+1) (rh T) bm2:=bR O fun x hx=>by
      have hx:x<(L+1)*(0+1):=hx
      by_cases ab:x<L
      ·rw[ai aa]
      ·obtain rfl:x=L:=aa;rw[ah aa,show x-x*(0+1)=0 from aa];unfold rh;rw[y,W,show(s*256+(k-v))%256=k-v from aa];rfl
     exact⟨(⟨L+1,U,K,V,bc2,sm2,bm2,[(xb,aj [ay s] 3),(yb,aj [.int .i64 ((k-v:Nat):Int)] 3)]++jk⟩,j+1),by dsimp only;omega,⟨by dsimp only;omega,by dsimp only;omega,by dsimp only;rw[<- Nat.add_assoc,<- y];exact am,by dsimp only;rw[<- Nat.add_assoc,<- y];exact al⟩,cF,.cons dT (.refl _)⟩
   ·obtain rfl:j=2^v:=aa;refine go ?_;refine⟨(⟨L,I,F,J,H,sm,Y,jk⟩,s+1),by dsimp only;omega,⟨by dsimp only;omega,?_⟩,cF,.refl _⟩
    dsimp only;rw[c1,Nat.add_mul,Nat.one_mul,<- Nat.add_assoc,<- a8,<- y];exact⟨rfl,r,u⟩
  ·obtain rfl:s=i+1:=aa;refine go ?_;refine⟨(⟨aM w' (i+1) v+bW w' (i+1) (v+1)*2^v,I,F,J,H,sm,Y,jk⟩,v+1),by dsimp only;omega,⟨by dsimp only;omega,?_,?_,?_⟩,cF,.refl _⟩<;>dsimp only<;>rw[iG]
   ·exact r
   ·exact u
 ·obtain rfl:v=k:=aa;rw[ad] at r u;refine go ?_;exact af (cE [2,3] ((pb,lY I F J H (2^v) v)::(sm++Y)) (junk:=(C,WB)::jk) ⟨_,rfl,pb,I,F,J,H,sm,Y,rfl,by rw[bu],by rw[bu];exact r,by rw[bu];exact u⟩ (by rw[ad];exact .of_perm an))
end Go.Proofs.YtogmacnlpclgkaaGreatDoor
