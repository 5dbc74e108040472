/- Texts 15. -/
import Derived.Test.YtogmacnlpclgkaaGreatDoorX14
set_option linter.all false
namespace Go.Pz
def Cs (d:Nat->Nat) (q:Nat):Nat:=d (q/8)/2^(q%8)%2
def aq (d:Nat->Nat):Nat->Nat->Nat
 | _,0=>0
 | q,k+1=>Cs d q+2*aq d (q+1) k
theorem vp (d:Nat->Nat) (q:Nat):Cs d q<2:=Nat.mod_lt _ aa
theorem aY (d:Nat->Nat):∀(k q:Nat),aq d q k<2^k
 | 0,_=>by simp[aq]
 | k+1,q=>by
  have:=aY d k (q+1)
  have:=vp d q
  rw[aq,Nat.pow_succ];omega
theorem eG (d:Nat->Nat):∀(a b q:Nat),aq d q (a+b)=aq d q a+2^a*aq d (q+a) b
 | 0,b,q=>by simp[aq]
 | a+1,b,q=>by
  rw[show a+1+b=(a+b)+1 from aa,aq,eG d a b (q+1),aq,Nat.pow_succ];rw[show q+1+a=q+(a+1) from aa];have:2^a*2*aq d (q+(a+1)) b=2*(2^a*aq d (q+(a+1)) b):=by rw[Nat.mul_comm (2^a) 2,Nat.mul_assoc]
  omega
theorem qO (d:Nat->Nat) (k q:Nat):aq d q (k+1)=aq d q k+2^k*Cs d (q+k):=by
 rw[eG d k 1 q];simp[aq]
theorem fw (d:Nat->Nat) (q:Nat) {j k:Nat} (h:j<=k):aq d q k%2^j=aq d q j:=by
 obtain⟨b,rfl⟩:∃b,k=j+b:=⟨k-j,aa⟩
 rw[eG,Nat.add_mul_mod_self_left,Nat.mod_eq_of_lt (aY d j q)]
theorem fx (d:Nat->Nat) (q:Nat) {j k:Nat} (h:j<=k):aq d q k/2^j=aq d (q+j) (k-j):=by
 obtain⟨b,rfl⟩:∃b,k=j+b:=⟨k-j,aa⟩
 rw[eG,Nat.add_mul_div_left _ _ (Nat.pow_pos aa),Nat.div_eq_of_lt (aY d j q)]
 simp
theorem jI (d:Nat->Nat) (i:Nat):∀(k j:Nat),j+k<=8->aq d (8*i+j) k=d i/2^j%2^k
 | 0,j,_=>by simp[aq,Nat.mod_one]
 | k+1,j,h=>by
  rw[aq,show 8*i+j+1=8*i+(j+1) from aa,jI d i k (j+1) aa];unfold Cs;rw[show(8*i+j)/8=i from aa,show(8*i+j)%8=j from aa];have g:d i/2^(j+1)=d i/2^j/2:=by rw[Nat.pow_succ,Nat.div_div_eq_div_mul]
  rw[g];generalize d i/2^j=x;rw[Nat.pow_succ,Nat.mul_comm (2^k) 2,Nat.mod_mul]
theorem qP (d:Nat->Nat) (hd:∀i,d i<256) (i:Nat):aq d (8*i) 8=d i:=by
 have:=jI d i 8 0 aa
 rw[Nat.add_zero] at this
 rw[this,Nat.pow_zero,Nat.div_one,Nat.mod_eq_of_lt (hd i)]
theorem w7 (d:Nat->Nat) (hd:∀i,d i<256) (q k i:Nat) (h:q+k=8*i):aq d q (k+8)=aq d q k+2^k*d i:=by
 rw[eG,h,qP d hd]
theorem tE (d:Nat->Nat) (hd:∀i,d i<256) (i k:Nat):aq d (8*i) (8+k)=d i+256*aq d (8*(i+1)) k:=by
 rw[eG,qP d hd];rfl
def jJ (size:Nat):Nat:=size/2+size/8+3
def db (size j:Nat):Nat:=j*jJ size%size
def fK (size H:Nat):Nat->Nat
 | 0=>0
 | j+1=>fK size H j+if db size j<H then 1 else 0
def vq (size h:Nat):Nat->Nat
 | 0=>0
 | j+1=>vq size h j+if db size j=h then 1 else 0
def Dh (size:Nat):Nat:=if size=32 then 7 else if size=64 then 3 else if size=128 then 91 else if size=256 then 11 else 363
def gG (size p:Nat):Nat:=p*Dh size%size
def dO (size:Nat):Prop:=size=32\/size=64\/size=128\/size=256\/size=512
instance (size:Nat):Decidable (dO size):=by unfold dO;infer_instance
theorem dO.pos {size:Nat} (h:dO size):0<size:=by rcases h with rfl|rfl|rfl|rfl|rfl<;>decide
theorem dO.le {size:Nat} (h:dO size):size<=512:=by rcases h with rfl|rfl|rfl|rfl|rfl<;>decide
theorem dO.inv {size:Nat} (h:dO size):jJ size*Dh size%size=1:=by rcases h with rfl|rfl|rfl|rfl|rfl<;>decide
theorem dO.of_log {log:Nat} (g:5<=log) (h:log<=9):dO (2^log):=by
 have:log=5\/log=6\/log=7\/log=8\/log=9:=aa
 rcases this with rfl|rfl|rfl|rfl|rfl<;>decide
theorem vr {a b n:Nat}:a%n*b%n=a*b%n:=by rw[Nat.mul_mod,Nat.mod_mod,<- Nat.mul_mod]
theorem nh {size:Nat} (h:dO size) {j:Nat} (g:j<size):gG size (db size j)=j:=by
 unfold gG db
 rw[vr,Nat.mul_assoc,Nat.mul_mod,h.inv,Nat.mul_one,Nat.mod_mod,Nat.mod_eq_of_lt g]
theorem iB {size:Nat} (h:dO size) {p:Nat} (g:p<size):db size (gG size p)=p:=by
 unfold gG db
 rw[show p*Dh size%size*jJ size%size=p*Dh size*jJ size%size by rw[Nat.mul_mod,Nat.mod_mod,<- Nat.mul_mod],Nat.mul_assoc,Nat.mul_comm (Dh size),Nat.mul_mod,h.inv,Nat.mul_one,Nat.mod_mod,Nat.mod_eq_of_lt g]
theorem ni {size:Nat} (h:dO size) (p:Nat):gG size p<size:=Nat.mod_lt _ h.pos
theorem o7 {size:Nat} (h:dO size) (j:Nat):db size j<size:=Nat.mod_lt _ h.pos
theorem pW (size j:Nat):db size (j+1)=(db size j+jJ size)%size:=by
 unfold db
 rw[Nat.add_mul,Nat.one_mul,Nat.mod_add_mod]
theorem kL (size:Nat):db size 0=0:=by simp[db]
theorem pX (size:Nat):db size size=0:=by simp[db]
theorem vt {size h:Nat} (hs:dO size) (k:h<size):∀j,j<=size->vq size h j=if gG size h<j then 1 else 0
 | 0,_=>by simp[vq]
 | j+1,hj=>by
  rw[vq,vt hs k j aa];by_cases g:db size j=h
  ·have:gG size h=j:=by rw[<- g];exact nh hs aa
   rw[ai g,ah aa,ai aa]
  ·have:gG size h≠j:=fun e=>g (by rw[<- e];exact iB hs k)
   rw[ah g];by_cases i:gG size h<j
   ·rw[ai i,ai aa]
   ·rw[ah i,ah aa]
theorem qQ (size H:Nat):∀j,fK size (H+1) j=fK size H j+vq size H j
 | 0=>rfl
 | j+1=>by
  rw[fK,fK,vq,qQ size H j];by_cases g:db size j<H
  ·rw[ai g,ai aa,ah aa];omega
  ·by_cases h:db size j=H
   ·rw[ah g,ai aa,ai h];omega
   ·rw[ah g,ah aa,ah h];omega
theorem uc (size:Nat):∀j,fK size 0 j=0
 | 0=>rfl
 | j+1=>by rw[fK,uc size j,ah aa]
theorem iC {size:Nat} (hs:dO size):∀{H:Nat},H<=size->fK size H size=H
 | 0,_=>uc size size
 | H+1,h=>by
  rw[qQ,iC hs aa,vt hs aa size (aZ _),ai (ni hs _)]
theorem ud (size H:Nat) {i:Nat}:∀{j:Nat},i<=j->fK size H i<=fK size H j
 | 0,h=>by
  obtain rfl:i=0:=aa;exact aZ _
 | j+1,h=>by
  rcases Nat.lt_or_ge i (j+1) with g|g
  ·have:=ud size H (i:=i) (j:=j) aa
   rw[fK];omega
  ·obtain rfl:i=j+1:=aa;exact aZ _
theorem vu {size H i j:Nat} (h:i<j) (hi:db size i<H):fK size H i<fK size H j:=by
 have:=ud size H (i:=i+1) (j:=j) h
 rw[fK,ai hi] at this;omega
theorem su {size H j:Nat} (hs:dO size) (g:H<=size) (i:j<=size) (hg:db size j<H) (k:fK size H j=H):j=size:=by
 rcases Nat.lt_or_ge j size with h|h
 ·have:=vu h hg
  rw[iC hs g] at this;omega
 ·omega
def bX (sh:Nat->Int):Nat->Nat
 | 0=>0
 | n+1=>bX sh n+(sh n).toNat
def aL (sh:Nat->Int):Nat->Nat
 | 0=>0
 | n+1=>aL sh n+if sh n<0 then 1 else 0
def fL (sh:Nat->Int):Nat->Nat->Nat
 | 0,_=>0
 | n+1,k=>if bX sh n<=k then n else fL sh n k
def iD (sh:Nat->Int):Nat->Nat->Nat
 | 0,_=>0
 | n+1,k=>if aL sh n=k/\sh n<0 then n else iD sh n k
theorem gd (sh:Nat->Int) {i:Nat}:∀{j:Nat},i<=j->bX sh i<=bX sh j
 | 0,h=>by
  obtain rfl:i=0:=aa;exact aZ _
 | j+1,h=>by
  rcases Nat.lt_or_ge i (j+1) with g|g
  ·have:=gd sh (i:=i) (j:=j) aa
   rw[bX];omega
  ·obtain rfl:i=j+1:=aa;exact aZ _
theorem kl (sh:Nat->Int) {i:Nat}:∀{j:Nat},i<=j->aL sh i<=aL sh j
 | 0,h=>by
  obtain rfl:i=0:=aa;exact aZ _
 | j+1,h=>by
  rcases Nat.lt_or_ge i (j+1) with g|g
  ·have:=kl sh (i:=i) (j:=j) aa
   rw[aL];omega
  ·obtain rfl:i=j+1:=aa;exact aZ _
theorem nj (sh:Nat->Int) {s k:Nat} (l:bX sh s<=k) (p:k<bX sh (s+1)):∀{n:Nat},s<n->fL sh n k=s
 | n+1,h=>by
  rw[fL];rcases Nat.lt_or_ge s n with g|g
  ·have:=gd sh (i:=s+1) (j:=n) g
   rw[ah aa,nj sh l p g]
  ·obtain rfl:s=n:=aa;rw[ai l]
theorem pY (sh:Nat->Int):∀{n k:Nat},k<bX sh n->∃s,s<n/\fL sh n k=s/\bX sh s<=k/\k<bX sh (s+1)
 | 0,k,h=>by simp[bX] at h
 | n+1,k,h=>by
  rw[fL];by_cases g:bX sh n<=k
  ·rw[ai g];exact⟨n,aa,rfl,g,h⟩
  ·rw[ah g];obtain⟨s,j,i⟩:=pY sh (n:=n) (k:=k) aa
   exact⟨s,aa,i⟩
theorem pZ (sh:Nat->Int) {s:Nat} (g:sh s<0):∀{n:Nat},s<n->iD sh n (aL sh s)=s
 | n+1,h=>by
  rw[iD];rcases Nat.lt_or_ge s n with k|k
  ·have:=kl sh (i:=s+1) (j:=n) k
   rw[aL,ai g] at this;rw[ah aa,pZ sh g k]
  ·obtain rfl:s=n:=aa;rw[ai ⟨rfl,g⟩]
theorem ue (sh:Nat->Int):∀{n k:Nat},k<aL sh n->∃s,s<n/\iD sh n k=s/\sh s<0/\aL sh s=k
 | 0,k,h=>by simp[aL] at h
 | n+1,k,h=>by
  rw[iD];by_cases g:aL sh n=k/\sh n<0
  ·rw[ai g];exact⟨n,aa,rfl,g.2,g.1⟩
  ·rw[ah g];obtain⟨s,i,j⟩:=ue sh (n:=n) (k:=k) (by
    rw[aL] at h;split at h
    ·rename_i i;have:aL sh n≠k:=fun e=>g ⟨e,i⟩
     omega
    ·omega)
   exact⟨s,aa,j⟩
def aI (sh:Nat->Int) (n size p:Nat):Nat :=
 let H:=size-aL sh n
 if p<H then fL sh n (fK size H (gG size p)) else iD sh n (size-1-p)
def jK (tab:Nat->Nat) (s:Nat):Nat->Nat
 | 0=>0
 | p+1=>jK tab s p+if tab p=s then 1 else 0
def eH (sh:Nat->Int) (n size p:Nat):Nat :=
 let s:=aI sh n size p
 (if sh s<0 then 1 else(sh s).toNat)+jK (aI sh n size) s p
def aG (sh:Nat->Int) (n log p:Nat):Nat:=log-Nat.log2 (eH sh n (2^log) p)
def bO (sh:Nat->Int) (n log p:Nat):Nat:=eH sh n (2^log) p*2^aG sh n log p-2^log
def sv (A:Nat->Bool) (size H:Nat):Nat->Nat
 | 0=>0
 | j+1=>sv A size H j+if db size j<H/\A (db size j)=true then 1 else 0
theorem qR (A:Nat->Bool) (size H:Nat):∀j,sv A size (H+1) j=sv A size H j+if A H=true then vq size H j else 0
 | 0=>by simp[sv,vq]
 | j+1=>by
  rw[sv,sv,vq,qR A size H j];by_cases i:db size j<H
  ·have p:¬db size j=H:=aa
   have g:db size j<H+1:=aa
   by_cases k:A (db size j)=true<;>by_cases h:A H=true<;>simp only[i,k,h,p,g,and_true,and_false,true_and,false_and,if_true,if_false,Bool.false_eq_true]<;>omega
  ·by_cases l:db size j=H
   ·have g:db size j<H+1:=aa
    rw[l] at i g ⊢;by_cases h:A H=true<;>simp only[i,h,g,and_true,and_false,true_and,false_and,if_true,if_false,Bool.false_eq_true]<;>omega
   ·have g:¬db size j<H+1:=aa
    by_cases k:A (db size j)=true<;>by_cases h:A H=true<;>simp only[i,l,k,h,g,and_true,and_false,true_and,false_and,if_true,if_false,Bool.false_eq_true]<;>omega
def Di (A:Nat->Bool):Nat->Nat
 | 0=>0
 | p+1=>Di A p+if A p=true then 1 else 0
theorem uf (A:Nat->Bool) (size:Nat):∀j,sv A size 0 j=0
 | 0=>rfl
 | j+1=>by rw[sv,uf A size j,ah (fun h=>aa)]
theorem ug (A:Nat->Bool) {size:Nat} (hs:dO size):∀{H:Nat},H<=size->sv A size H size=Di A H
 | 0,_=>uf A size size
 | H+1,h=>by
  rw[qR,ug A hs aa,vt hs aa size (aZ _),ai (ni hs _),Di]
def Bn (sh:Nat->Int) (n s:Nat):Nat->Nat
 | 0=>0
 | k+1=>Bn sh n s k+if fL sh n k=s then 1 else 0
theorem zR (sh:Nat->Int) {n s:Nat} (hs:s<n):∀{k:Nat},k<=bX sh n->Bn sh n s k=min k (bX sh (s+1))-min k (bX sh s)
 | 0,_=>by simp[Bn]
 | k+1,h=>by
  rw[Bn,zR sh hs aa];have p:bX sh s<=bX sh (s+1):=gd sh aa
  by_cases g:bX sh s<=k/\k<bX sh (s+1)
  ·rw[ai (nj sh g.1 g.2 hs)];omega
  ·rw[ah (fun e=>by
    obtain⟨t,q,l,i,j⟩:=pY sh (n:=n) (k:=k) aa
    rw[l] at e;subst e;exact g ⟨i,j⟩)]
   omega
theorem w9 (sh:Nat->Int) (n:Nat) {size j:Nat} (hs:dO size) (g:j<size) (hg:db size j<size-aL sh n) :
  aI sh n size (db size j)=fL sh n (fK size (size-aL sh n) j):=by
 unfold aI
 simp only
 rw[ai hg,nh hs g]
theorem w_ (sh:Nat->Int) (n s:Nat) {size:Nat} (hs:dO size):∀{j:Nat},j<=size ->
  sv (fun p=>aI sh n size p==s) size (size-aL sh n) j=Bn sh n s (fK size (size-aL sh n) j)
 | 0,_=>rfl
 | j+1,h=>by
  rw[sv,fK,w_ sh n s hs aa];by_cases hg:db size j<size-aL sh n
  ·rw[ai hg,Bn];simp only[w9 sh n hs (show j<size from aa) hg,beq_iff_eq]
   congr 1
   by_cases g:fL sh n (fK size (size-aL sh n) j)=s
   ·rw[ai ⟨hg,g⟩,ai g]
   ·rw[ah (fun h=>g h.2),ah g]
  ·rw[ah hg,ah (fun h=>hg h.1)];rfl
theorem Dj (tab:Nat->Nat) (s:Nat):∀p,jK tab s p=Di (fun p=>tab p==s) p
 | 0=>rfl
 | p+1=>by rw[jK,Di,Dj tab s p];simp
structure fe (sh:Nat->Int) (n size:Nat):Prop where
 ok:dO size
 ge:∀s,s<n -> -1<=sh s
 sum:bX sh n+aL sh n=size
theorem fe.low {sh:Nat->Int} {n size:Nat} (f:fe sh n size):size-aL sh n=bX sh n:=by have:=f.sum;omega
theorem Dk {sh:Nat->Int} {n size s:Nat} (f:fe sh n size) (hs:s<n):jK (aI sh n size) s (size-aL sh n)=(sh s).toNat:=by
 rw[Dj,<- ug _ f.ok aa,w_ sh n s f.ok (aZ _),iC f.ok aa,f.low,zR sh hs (aZ _)]
 have g:=gd sh (i:=s+1) (j:=n) hs
 rw[bX] at g ⊢;omega
theorem uh (tab:Nat->Nat) (s:Nat) {i:Nat}:∀{j:Nat},i<=j->jK tab s i<=jK tab s j
 | 0,h=>by
  obtain rfl:i=0:=aa;exact aZ _
 | j+1,h=>by
  rcases Nat.lt_or_ge i (j+1) with g|g
  ·have:=uh tab s (i:=i) (j:=j) aa
   rw[jK];omega
  ·obtain rfl:i=j+1:=aa;exact aZ _
theorem gf {sh:Nat->Int} {n size p:Nat} (f:fe sh n size) (h:p<size-aL sh n):aI sh n size p<n/\0<sh (aI sh n size p):=by
 have h0:fK size (size-aL sh n) (gG size p)<bX sh n:=by
  have g:=vu (size:=size) (H:=size-aL sh n) (i:=gG size p) (j:=size) (ni f.ok _) (by rw[iB f.ok aa];exact h)
  rw[iC f.ok aa,f.low] at g;rw[f.low];exact g
 obtain⟨s,g,k,q,l⟩:=pY sh h0
 have:aI sh n size p=s:=by unfold aI;simp only;rw[ai h];exact k
 rw[this]
 refine⟨g,?_⟩
 rw[bX] at l;omega
theorem gR {sh:Nat->Int} {n size p:Nat} (g:¬p<size-aL sh n) (h:p<size):aI sh n size p<n/\sh (aI sh n size p)<0/\aL sh (aI sh n size p)=size-1-p:=by
 obtain⟨s,l,i,q,j⟩:=ue sh (n:=n) (k:=size-1-p) aa
 have:aI sh n size p=s:=by unfold aI;simp only;rw[ah g];exact i
 rw[this];exact⟨l,q,j⟩
theorem Bp {sh:Nat->Int} {n size p:Nat} (f:fe sh n size) (g:p<size-aL sh n) :
  (sh (aI sh n size p)).toNat<=eH sh n size p/\eH sh n size p<2*(sh (aI sh n size p)).toNat:=by
 obtain⟨h,k⟩:=gf f g
 have l:=Dk f h
 have q:jK (aI sh n size) (aI sh n size p) p<(sh (aI sh n size p)).toNat:=by
  have:=uh (aI sh n size) (aI sh n size p) (i:=p+1) (j:=size-aL sh n) g
  rw[jK,ai rfl] at this;omega
 unfold eH
 simp only
 rw[ah aa];omega
theorem ui {tab:Nat->Nat} {s:Nat}:∀{p:Nat},(∀i,i<p->tab i≠s)->jK tab s p=0
 | 0,_=>rfl
 | p+1,h=>by rw[jK,ui (fun i hi=>h i aa),ah (h p aa)]
theorem sw {sh:Nat->Int} {n size p:Nat} (f:fe sh n size) (j:¬p<size-aL sh n) (h:p<size):eH sh n size p=1:=by
 obtain⟨q,k,l⟩:=gR j h
 unfold eH
 simp only
 rw[ai k,ui]
 intro i hi e
 by_cases g:i<size-aL sh n
 ·have:=(gf f g).2
  rw[e] at this;omega
 ·have:=(gR g aa).2.2
  rw[e,l] at this;omega
theorem sA {sh:Nat->Int} {n s:Nat} (hs:s<n):(sh s).toNat<=bX sh n:=by
 have g:=gd sh (i:=s+1) (j:=n) hs
 rw[bX] at g;omega
theorem p8 {sh:Nat->Int} {n size p:Nat} (f:fe sh n size) (g:p<size):0<eH sh n size p/\eH sh n size p<2*size:=by
 have hsz:=f.ok.pos
 by_cases h:p<size-aL sh n
 ·obtain⟨l,j⟩:=Bp f h;obtain⟨i,k⟩:=gf f h;have:=sA (sh:=sh) i
  have:=f.sum
  omega
 ·rw[sw f h g];omega
theorem h_ {sh:Nat->Int} {n log p:Nat} (f:fe sh n (2^log)) (g:p<2^log) :
  2^log<=eH sh n (2^log) p*2^aG sh n log p/\aG sh n log p<=log/\bO sh n log p+2^aG sh n log p<=2^log:=by
 obtain⟨u,t⟩:=p8 f g
 unfold bO aG
 generalize eH sh n (2^log) p=c at *
 have j:2^Nat.log2 c<=c:=Nat.log2_self_le aa
 have i:c<2^(Nat.log2 c+1):=Nat.lt_log2_self
 have q:Nat.log2 c<=log:=by
  rcases Nat.lt_or_ge log (Nat.log2 c) with h|h
  ·have:2^(log+1)<=2^Nat.log2 c:=Nat.pow_le_pow_right aa h
   rw[Nat.pow_succ] at this;omega
  ·exact h
 have k:2^Nat.log2 c*2^(log-Nat.log2 c)=2^log:=by rw[<- Nat.pow_add];congr 1;omega
 have r:(c+1)*2^(log-Nat.log2 c)<=2*2^log:=by
  have:(c+1)*2^(log-Nat.log2 c)<=2^(Nat.log2 c+1)*2^(log-Nat.log2 c):=Nat.mul_le_mul_right _ i
  rw[Nat.pow_succ,Nat.mul_assoc,Nat.mul_comm 2,<- Nat.mul_assoc,k] at this;omega
 have l:2^log<=c*2^(log-Nat.log2 c):=by rw[<- k];exact Nat.mul_le_mul_right _ j
 rw[Nat.add_mul,Nat.one_mul] at r
 exact⟨l,aa,aa⟩
def eg (d:Nat->Nat) (q most:Nat):Nat×Nat :=
 let n:=Nat.log2 most+1
 let few:=2^n-1-most
 let v:=aq d q (n-1)
 if v<few then(v,n-1)
 else
  let w:=aq d q n
  (if 2^(n-1)<=w then w-few else w,n)
def dC (d:Nat->Nat):Nat->Nat->Nat
 | _,0=>0
 | q,k+1=>if aq d q 2=3 then dC d (q+2) k+1 else 0
def gx (sh:Nat->Int) (c:Nat) (p:Int):Nat->Int:=fun i=>if i=c then p else sh i
def bI (look:Bool) (d:Nat->Nat) (N g:Nat):Nat->Nat->Nat->(Nat->Int)->Nat->Option ((Nat->Int)×Nat×Nat)
 | 0,_,_,_,_=>none
 | k+1,q,left,sh,c =>
  if left=0 then some (sh,c,q)
  else if g<c then none
  else
   let r:=eg d q (left+1)
   if 8*N<q+(if look then 16 else r.2) then none
   else
    let p:Int:=(r.1:Int)-1
    let sh':=gx sh c p
    let q':=q+r.2
    if p=0 then
     let z:=dC d q' (4*N)
     if g<c+1 then none
     else if 8*N<q'+2*z+(if look then 16 else 2) then none
     else
      let c':=c+1+3*z+aq d (q'+2*z) 2
      if g<c' then none
      else bI look d N g k (q'+2*z+2) left sh' c'
    else bI look d N g k q' (left-p.natAbs) sh' (c+1)
def eI (look:Bool) (d:Nat->Nat) (N g h q:Nat):Option (Nat×(Nat->Int)×Nat×Nat) :=
 if 8*N<q+(if look then 16 else 4) then none
 else
  let log:=aq d q 4+5
  if g<log then none
  else(bI look d N h (h+2) (q+4) (2^log) (fun _=>0) 0).map fun r=>(log,r)
theorem o8 (d:Nat->Nat) (q:Nat) {most:Nat} (h:1<=most):(eg d q most).1<=most/\(eg d q most).2<=Nat.log2 most+1/\Nat.log2 most<=(eg d q most).2:=by
 have j:2^Nat.log2 most<=most:=Nat.log2_self_le aa
 have g:most<2^(Nat.log2 most+1):=Nat.lt_log2_self
 unfold eg
 simp only[Nat.add_sub_cancel]
 have k:=aY d (Nat.log2 most) q
 have i:=aY d (Nat.log2 most+1) q
 rw[Nat.pow_succ] at *
 split
 ·exact⟨by simp only;omega,by simp only;omega,aZ _⟩
 ·refine⟨?_,aZ _,by simp only;omega⟩
  simp only
  split<;>omega
theorem o9 {sh sh':Nat->Int}:∀{n:Nat},(∀i,i<n->sh i=sh' i)->bX sh n=bX sh' n
 | 0,_=>rfl
 | n+1,h=>by rw[bX,bX,o9 (fun i hi=>h i aa),h n aa]
theorem o_ {sh sh':Nat->Int}:∀{n:Nat},(∀i,i<n->sh i=sh' i)->aL sh n=aL sh' n
 | 0,_=>rfl
 | n+1,h=>by rw[aL,aL,o_ (fun i hi=>h i aa),h n aa]
theorem js {sh:Nat->Int} {c:Nat}:∀{n:Nat},c<=n->(∀i,c<=i->sh i=0)->bX sh n=bX sh c
 | 0,h,_=>by
  obtain rfl:c=0:=aa
  rfl
 | n+1,h,hz=>by
  rcases Nat.lt_or_ge c (n+1) with g|g
  ·rw[bX,js (n:=n) aa hz,hz n aa];rfl
  ·obtain rfl:c=n+1:=aa
   rfl
theorem jt {sh:Nat->Int} {c:Nat}:∀{n:Nat},c<=n->(∀i,c<=i->sh i=0)->aL sh n=aL sh c
 | 0,h,_=>by
  obtain rfl:c=0:=aa
  rfl
 | n+1,h,hz=>by
  rcases Nat.lt_or_ge c (n+1) with g|g
  ·rw[aL,jt (n:=n) aa hz,hz n aa];rfl
  ·obtain rfl:c=n+1:=aa
   rfl
theorem pa {sh:Nat->Int} {c k:Nat}:∀{n:Nat},c<=n->(∀i,c<=i->sh i=0)->iD sh n k=iD sh c k
 | 0,h,_=>by
  obtain rfl:c=0:=aa
  rfl
 | n+1,h,hz=>by
  rcases Nat.lt_or_ge c (n+1) with g|g
  ·rw[iD,pa (n:=n) aa hz,ah (fun e=>by rw[hz n aa] at e;omega)]
  ·obtain rfl:c=n+1:=aa
   rfl
theorem pc {sh:Nat->Int} {c k:Nat} (j:k<bX sh c):∀{n:Nat},c<=n->(∀i,c<=i->sh i=0)->fL sh n k=fL sh c k
 | 0,h,_=>by
  obtain rfl:c=0:=aa
  rfl
 | n+1,h,hz=>by
  rcases Nat.lt_or_ge c (n+1) with g|g
  ·rw[fL,ah (by rw[js (n:=n) aa hz];omega),pc j (n:=n) aa hz]
  ·obtain rfl:c=n+1:=aa
   rfl
theorem ju {sh:Nat->Int} {c n size p:Nat} (f:fe sh c size) (h:c<=n) (k:∀i,c<=i->sh i=0):aI sh n size p=aI sh c size p:=by
 unfold aI
 simp only
 rw[jt h k,pa h k]
 by_cases g:p<size-aL sh c
 ·rw[ai g,ai g];refine pc ?_ h k
  have l:=vu (size:=size) (H:=size-aL sh c) (i:=gG size p) (j:=size) (ni f.ok _) (by rw[iB f.ok aa];exact g)
  rw[iC f.ok aa,f.low] at l;rw[f.low];exact l
 ·rw[ah g,ah g]
theorem fe.zeros {sh:Nat->Int} {c n size:Nat} (f:fe sh c size) (h:c<=n) (j:∀i,c<=i->sh i=0):fe sh n size where
 ok:=f.ok
 ge s hs:=by
  rcases Nat.lt_or_ge s c with g|g
  ·exact f.ge s g
  ·rw[j s g];omega
 sum:=by rw[js h j,jt h j];exact f.sum
theorem n4 {a:Nat} (h0:0<a) (h:a<=513):Nat.log2 a<=9:=by
 rcases Nat.lt_or_ge 9 (Nat.log2 a) with g|g
 ·have i:2^Nat.log2 a<=a:=Nat.log2_self_le aa
  have j:2^10<=2^Nat.log2 a:=Nat.pow_le_pow_right aa g
  omega
 ·exact g
theorem sB {a:Nat} (h:2<=a):1<=Nat.log2 a:=by
 rcases Nat.eq_zero_or_pos (Nat.log2 a) with h0|h0
 ·have g:a<2^(Nat.log2 a+1):=Nat.lt_log2_self
  rw[h0] at g;omega
 ·exact h0
theorem fy {look:Bool} {d:Nat->Nat} {N g k q left:Nat} {sh:Nat->Int} {c:Nat} {R:(Nat->Int)×Nat×Nat} (h:bI look d N g (k+1) q left sh c=some R) (hl:left≠0) :
  c<=g/\q+(if look then 16 else(eg d q (left+1)).2)<=8*N /\
  (((eg d q (left+1)).1=1/\c+1<=g /\
   (let q':=q+(eg d q (left+1)).2
    let z:=dC d q' (4*N)
    let c':=c+1+3*z+aq d (q'+2*z) 2
    q'+2*z+(if look then 16 else 2)<=8*N/\c'<=g/\bI look d N g k (q'+2*z+2) left (gx sh c 0) c'=some R)) \/
   ((eg d q (left+1)).1≠1/\bI look d N g k (q+(eg d q (left+1)).2) (left-(((eg d q (left+1)).1:Int)-1).natAbs) (gx sh c (((eg d q (left+1)).1:Int)-1)) (c+1)=some R)):=by
 unfold bI at h
 rw[ah hl] at h
 by_cases j:g<c
 ·rw[ai j] at h;cases h
 rw[ah j] at h
 simp only at h
 generalize eg d q (left+1)=r at *
 by_cases hb:8*N<q+(if look then 16 else r.2)
 ·rw[ai hb] at h;cases h
 rw[ah hb] at h
 refine⟨aa,aa,?_⟩
 by_cases i:r.1=1
 ·rw[ai aa] at h
  left
  by_cases p:g<c+1
  ·rw[ai p] at h;cases h
  rw[ah p] at h;by_cases l:8*N<q+r.2+2*dC d (q+r.2) (4*N)+(if look then 16 else 2)
  ·rw[ai l] at h;cases h
  rw[ah l] at h;by_cases t:g<c+1+3*dC d (q+r.2) (4*N)+aq d (q+r.2+2*dC d (q+r.2) (4*N)) 2
  ·rw[ai t] at h;cases h
  rw[ah t] at h;rw[i] at h;exact⟨i,aa,aa,aa,h⟩
 ·rw[ah aa] at h;exact .inr ⟨i,h⟩
theorem sC (sh:Nat->Int) (c:Nat) (p:Int):bX (gx sh c p) (c+1)=bX sh c+p.toNat:=by
 rw[bX,o9 (sh':=sh) (fun i hi=>by unfold gx;rw[ah aa])]
 unfold gx;rw[ai rfl]
theorem sD (sh:Nat->Int) (c:Nat) (p:Int):aL (gx sh c p) (c+1)=aL sh c+if p<0 then 1 else 0:=by
 rw[aL,o_ (sh':=sh) (fun i hi=>by unfold gx;rw[ah aa])]
 unfold gx;rw[ai rfl]
theorem jL {look:Bool} {d:Nat->Nat} {N u:Nat}:∀{k q left:Nat} {sh:Nat->Int} {c:Nat} {sh':Nat->Int} {j t:Nat},
  bI look d N u k q left sh c=some (sh',j,t)->left<=512->c<=u+1->(∀i,c<=i->sh i=0)->(∀i,-1<=sh i) ->
  bX sh' j+aL sh' j=bX sh c+aL sh c+left/\j<=u+1/\(∀i,j<=i->sh' i=0)/\(∀i,-1<=sh' i)/\q<=t/\(left≠0->q<t/\t<=8*N)
 | 0,_,_,_,_,_,_,_,h,_,_,_,_=>by cases h
 | k+1,q,left,sh,c,sh',j,t,h,hle,hc,hz,hge=>by
  by_cases hl:left=0
  ·unfold bI at h;rw[ai hl] at h;cases h;exact⟨aa,hc,hz,hge,aZ _,fun h=>absurd hl h⟩
  obtain⟨U,F,I⟩:=fy h hl;obtain⟨J,K,O⟩:=o8 d q (most:=left+1) aa
  have M:=n4 (a:=left+1) aa aa
  have V:=sB (a:=left+1) aa
  generalize eg d q (left+1)=r at *;have B:q+r.2<=8*N:=by split at F<;>omega
  rcases I with⟨p1,p2,p3⟩|⟨p1,p2⟩
  ·simp only at p3
   obtain⟨p3,p4,p5⟩:=p3;have l:∀i,c+1<=i->gx sh c 0 i=0:=fun i hi=>by unfold gx;rw[ah aa];exact hz i aa
   have g:∀i,-1<=gx sh c 0 i:=fun i=>by unfold gx;split;omega;exact hge i
   have p:=jL p5 hle aa (fun i hi=>l i aa) g
   rw[js (c:=c+1) aa l,jt (c:=c+1) aa l,sC,sD] at p;obtain⟨A,i2,C,y,H,z⟩:=p;refine⟨by rw[A];simp,i2,C,y,aa,fun _=>⟨aa,(z hl).2⟩⟩
  ·have l:∀i,c+1<=i->gx sh c ((r.1:Int)-1) i=0:=fun i hi=>by unfold gx;rw[ah aa];exact hz i aa
   have g:∀i,-1<=gx sh c ((r.1:Int)-1) i:=fun i=>by unfold gx;split;omega;exact hge i
   have p:=jL p2 aa aa l g
   rw[sC,sD] at p;obtain⟨A,i2,C,y,H,z⟩:=p;refine⟨by rw[A];split<;>omega,i2,C,y,aa,fun _=>⟨aa,?_⟩⟩
   by_cases h0:left-((r.1:Int)-1).natAbs=0
   ·rw[h0] at p2
    cases k with
    | zero=>cases p2
    | succ k =>
     unfold bI at p2;rw[ai rfl] at p2;cases p2;exact B
   ·exact(z h0).2
theorem lG {d:Nat->Nat} {N g:Nat}:∀{k q left:Nat} {sh:Nat->Int} {c:Nat} {R:(Nat->Int)×Nat×Nat},
  bI true d N g k q left sh c=some R->left<=512->bI false d N g k q left sh c=some R
 | 0,_,_,_,_,_,h,_=>by cases h
 | k+1,q,left,sh,c,R,h,hle=>by
  by_cases hl:left=0
  ·unfold bI at h ⊢
   rw[ai hl] at h ⊢;exact h
  obtain⟨l,j,i⟩:=fy h hl;obtain⟨u,r,p⟩:=o8 d q (most:=left+1) aa
  have t:=n4 (a:=left+1) aa aa
  simp only[if_true] at j i
  unfold bI;rw[ah hl,ah aa];simp only[Bool.false_eq_true,if_false]
  rw[ah aa];rcases i with⟨p1,p2,p3,p4,p5⟩|⟨p1,p2⟩
  ·rw[ai aa,ah aa,ah aa,ah aa,p1];exact lG p5 hle
  ·rw[ah aa];exact lG p2 aa
theorem gS {d:Nat->Nat} {N j:Nat}:∀{k q left:Nat} {sh:Nat->Int} {c:Nat} {sh':Nat->Int} {i g:Nat},
 bI false d N j k q left sh c=some (sh',i,g)->q<=g
| 0,_,_,_,_,_,_,_,h=>by cases h
| k+1,q,left,sh,c,sh',i,g,h=>by
 by_cases hl:left=0
 ·unfold bI at h;rw[ai hl] at h;cases h;exact aZ _
 obtain⟨p,r,l⟩:=fy h hl
 rcases l with⟨p1,p2,p3,p4,p5⟩|⟨p1,p2⟩
 ·have:=gS p5;omega
 ·have:=gS p2;omega
theorem lH {d:Nat->Nat} {N j:Nat}:∀{k q left:Nat} {sh:Nat->Int} {c:Nat} {sh':Nat->Int} {i g:Nat},
  bI false d N j k q left sh c=some (sh',i,g)->left<=512->c<=j+1->g+15<=8*N->bI true d N j k q left sh c=some (sh',i,g)
 | 0,_,_,_,_,_,_,_,h,_,_,_=>by cases h
 | k+1,q,left,sh,c,sh',i,g,h,hle,hc,hq=>by
  by_cases hl:left=0
  ·unfold bI at h ⊢
   rw[ai hl] at h ⊢;exact h
  obtain⟨t,r,l⟩:=fy h hl;obtain⟨A,y,u⟩:=o8 d q (most:=left+1) aa
  have z:=sB (a:=left+1) aa
  simp only[Bool.false_eq_true,if_false] at r l
  unfold bI;rw[ah hl,ah aa];simp only[if_true]
  rcases l with⟨p1,p2,p3,p4,p5⟩|⟨p1,p2⟩
  ·have p:=gS p5
   rw[ah aa,ai aa,ah aa,ah aa,ah aa,p1];exact lH p5 hle aa hq
  ·have p:=gS p2
   rw[ah aa,ah aa];exact lH p2 aa aa hq
end Go.Pz
namespace Go.Proofs.YtogmacnlpclgkaaGreatDoor
open Go Go.Eng Go.Pz
attribute [local irreducible] RO J av aO
set_option maxRecDepth 20000
variable {G:ao} {d:Nat->Nat}
def Bq (i:Nat) (h:Option Addr) (n g off bits cnt:Nat):bk:=aj [bf i,.slice h n g,.int .u32 (off:Nat),.int .u32 (bits:Nat),.int .u32 (cnt:Nat)] 226
theorem HV (h:Nat) (g:Option Addr) (n i o b k j b' k':Nat):((((Bq h g n i o b k).st 2 (.int .u32 (j:Nat))).st 3 (.int .u32 (b':Nat))).st 4 (.int .u32 (k':Nat))).obj=(Bq h g n i j b' k').obj:=aW rfl rfl rfl rfl
theorem xd (h:Nat) (g:Option Addr) (n i o b k b' k':Nat):(((Bq h g n i o b k).st 3 (.int .u32 (b':Nat))).st 4 (.int .u32 (k':Nat))).obj=(Bq h g n i o b' k').obj:=aW rfl rfl rfl rfl
theorem Jl (h:Nat) (g:Option Addr) (n i o b k j k':Nat):(((Bq h g n i o b k).st 2 (.int .u32 (j:Nat))).st 4 (.int .u32 (k':Nat))).obj=(Bq h g n i j b k').obj:=aW rfl rfl rfl rfl
def rH (i:Nat) (h:Option Addr) (n g:Nat) (d:Nat->Nat) (q k:Nat):bk:=Bq i h n g ((q+k)/8) (aq d q k) k
theorem fQ {a b j:Nat} (h:a<2^j):a|||(b*2^j)=a+b*2^j:=by
 have:=Nat.shiftLeft_add_eq_or_of_lt h b
 rw[Nat.shiftLeft_eq] at this
 rw[Nat.or_comm,<- this];omega
theorem vv (S:bN G) (h g:Nat) (x:Int) (s:RS) (t:Option Addr) (n j:Nat) (hd:∀i,d i<256) (K:aU G t n j d) (Y:n<=2^20) (q k:Nat) (l:k<=23) (r:(q+k)%8=0) (u:q+k<=8*n) :
  av Tryz.prog G 124 #[bf h] [(h,rH g t n j d q k),(g,az x s)] (fun v m =>
   (q+16<=8*n/\v = .nilIface/\∃k',16<=k'/\k'<=23/\(q+k')%8=0/\q+k'<=8*n/\m=[(h,rH g t n j d q k'),(g,az x s)]) \/
   (8*n<q+16/\dM S .z v/\∃B,m=[(h,B),(g,az x s)])):=by
 refine bE Tryz.func124 fun c h0 hex=>?_
 refine go ?_
 refine aH (σ:=Nat) [] (fun _=>[(0,bf h)]) (fun k=>[(h,rH g t n j d q k),(g,az x s)]) (fun k=>k<=23/\(q+k)%8=0/\q+k<=8*n) (fun k=>24-k) k (.refl _) ⟨l,r,u⟩ ?_
 clear l r u k
 rintro k f ⟨l,r,u⟩
 have y:=aY d k q
 have H:2^k<=2^23:=Nat.pow_le_pow_right aa l
 refine go ?_
 refine ac rfl (fun O=>?_) (fun M=>?_)
 ·refine go ?_;refine ac rfl (fun W=>?_) (fun F=>?_)
  ·refine go ?_;refine ae (eZ S g x s _) ?_
   rintro v m ⟨⟨b',rfl⟩,rfl⟩;refine go ?_;exact af (cE [2] ([(h,_),(g,az x s)]) (junk:=[]) (.inr ⟨aa,⟨b',rfl⟩,_,rfl⟩) (aR.of_perm (List.Perm.swap _ _ _)))
  ·have C:(q+k)/8<n:=aa
   obtain⟨b0,o0,rfl⟩:=K.some aa;have U:=hd ((q+k)/8)
   have p:2^k<=2^16:=Nat.pow_le_pow_right aa aa
   have V:d ((q+k)/8)*2^k<=255*2^16:=Nat.mul_le_mul aa p
   refine go ?_;refine gb rfl rfl rfl rfl (by show _<2^32;omega) (by show _<2^32;omega) (fQ y) rfl ?_
   refine go ?_;refine⟨k+8,aa,⟨aa,aa,aa⟩,⟨rfl,trivial⟩,.cons ?_ (.refl _)⟩
   have J:(q+k)/8+1=(q+(k+8))/8:=aa
   have I:aq d q k+d ((q+k)/8)*2^k=aq d q (k+8):=by rw[w7 d hd q k ((q+k)/8) aa,Nat.mul_comm]
   rw[I];exact(HV g _ n j _ _ _ _ _ _).trans (by rw[J];rfl)
 ·refine go ?_;exact af (ag [2] (.inl ⟨aa,rfl,k,aa,l,r,u,rfl⟩))
theorem G5 (h g:Nat) (i:Option Addr) (n j:Nat) (q k b:Nat) (hb:b<=k) (r:k<=23) (y:(q+k)%8=0) (z:q+k<2^32) :
  av Tryz.prog G 125 #[bf h,.int .u8 (b:Nat)] [(h,rH g i n j d q k)] (fun v m=>v = .int .u32 (aq d q b:Nat)/\m=[(h,rH g i n j d (q+b) (k-b))]):=by
 refine bE Tryz.func125 fun c h0 hex=>?_
 have p:=aY d k q
 have t:2^k<=2^23:=Nat.pow_le_pow_right aa r
 have u:2^b<=2^23:=Nat.pow_le_pow_right aa aa
 have l:1<=2^b:=Nat.one_le_two_pow
 refine go ?_
 refine af ?_
 refine ag [4] (post:=[(h,rH g i n j d (q+b) (k-b))]) (junk:=[]) ⟨?_,rfl⟩ rfl (.cons ?_ .nil)
 ·show Value.int .u32 ((aq d q k&&&1*2^b-1:Nat):Int) = .int .u32 ((aq d q b:Nat):Int)
  rw[Nat.one_mul,Nat.and_two_pow_sub_one_eq_mod,fw d q hb]
 ·refine(xd g i n j _ _ _ _ _).trans ?_
  rw[fx d q hb,show(q+k)/8=(q+b+(k-b))/8 from aa]
  rfl
theorem Dl (g h:Nat) (i:Option Addr) (n j:Nat) (q k:Nat) (t:k<=23) (r:(q+k)%8=0) (z:q+k<2^32) :
  av Tryz.prog G 127 #[bf g] [(g,rH h i n j d q k)] (fun _ m=>∃B k',m=[(g,Bq h i n j ((q+7)/8) B k')]):=by
 refine bE Tryz.func127 fun c h0 hex=>?_
 refine go ?_
 refine aH (σ:=Nat) [] (fun _=>[(0,bf g)]) (fun k'=>[(g,Bq h i n j ((q+k')/8) (aq d q k) k')]) (fun k'=>k'<=23/\(q+k')%8=0) (fun k'=>k') k (.refl _) ⟨t,r⟩ ?_
 rintro k' f ⟨u,y⟩
 refine go ?_
 refine ac rfl (fun l=>?_) (fun p=>?_)
 ·refine go ?_;refine⟨k'-8,aa,⟨aa,aa⟩,⟨rfl,trivial⟩,.cons ((Jl h i n j _ _ _ _ _).trans ?_) .nil⟩
  rw[show(q+k')/8-1=(q+(k'-8))/8 from aa]
 ·refine go ?_;exact bY [] ⟨aq d q k,k',by rw[show(q+7)/8=(q+k')/8 from aa]⟩
theorem Fy (S:bN G) (h g:Nat) (x:Int) (s:RS) (i:Option Addr) (n j off bits cnt:Nat) (k:off<2^32) (str:ByteArray) :
  av Tryz.prog G 126 #[bf h,.string str] [(h,Bq g i n j off bits cnt),(g,az x s)] (fun v m=>dM S .z v/\m=[(h,Bq g i n j off bits cnt),(g,az x s)]):=by
 refine bE Tryz.func126 fun c h0 hex=>?_
 refine go ?_
 refine ae (c_ S g x s _ _) ?_
 rintro v m ⟨⟨b',rfl⟩,rfl⟩
 refine go ?_
 exact af (cE [4] ([(h,_),(g,az x s)]) (junk:=[]) ⟨⟨b',rfl⟩,rfl⟩ (aR.of_perm (List.Perm.swap _ _ _)))
theorem HW (h:Nat) (g:Option Addr) (n i off:Nat) (k:off<2^32) :
  av Tryz.prog G 123 #[bf h,.slice g n i,ay off] [] (fun v m=>m=[]/\v = .agg #[bf h,.slice g n i,.int .u32 (off:Nat),.int .u32 0,.int .u32 0]):=by
 refine bE Tryz.func123 fun c h0 hex=>?_
 refine go ?_
 refine aC z226 rfl hex fun j l=>?_
 refine go ?_
 refine bU (vs:=[bf h,.slice g n i,.int .u32 (off:Nat),.int .u32 0,.int .u32 0]) rfl rfl z226 rfl rfl rfl rfl ?_
 refine go ?_
 refine ak (s:=4) (vs:=[bf h,.slice g n i,.int .u32 (off:Nat),.int .u32 0,.int .u32 0]) rfl rfl rfl rfl (cC rfl) .here (aZ 5) rfl hex ?_
 refine go ?_
 refine af ?_
 exact cH [.cell 6 226] [.agg #[bf h,.slice g n i,.int .u32 (off:Nat),.int .u32 0,.int .u32 0]] ⟨⟨j,0,4,_,rfl,rfl,rfl,List.mem_cons_self,aZ 5,rfl⟩,trivial⟩ (post:=[]) (junk:=[(j,_)]) ⟨rfl,rfl⟩ rfl (.refl _)
def nG (h:Nat) (g:Option Addr) (n i off start bits cnt:Nat):bk:=aj [bf h,.slice g n i,.int .u32 (off:Nat),.int .u32 (start:Nat),.int .u32 (bits:Nat),.int .u32 (cnt:Nat)] 191
theorem Fz (h:Nat) (g:Option Addr) (n i o st b k j l b' k':Nat):(((((nG h g n i o st b k).st 2 (.int .u32 (j:Nat))).st 4 (.int .u32 (l:Nat))).st 4 (.int .u32 (b':Nat))).st 5 (.int .u32 (k':Nat))).obj=(nG h g n i j st b' k').obj:=aW rfl rfl rfl rfl
theorem FA (h:Nat) (g:Option Addr) (n i o st b k k':Nat):((nG h g n i o st b k).st 5 (.int .u32 (k':Nat))).obj=(nG h g n i o st b k').obj:=aW rfl rfl rfl rfl
structure iE (d:Nat->Nat) (a k B:Nat):Prop where
 le:k<=a
 al:(a-k)%8=0
 lt:B<2^32
 eq:B%2^min k 32=aq d (a-k) (min k 32)
 k40:k<=40
theorem iE.push {a k B:Nat} (h:iE d a k B) (hd:∀i,d i<256) (C:8<=a-k) (A:k<=32):iE d a (k+8) (B*2^8%2^32+d ((a-k)/8-1)) where
 le:=aa
 al:=by have:=h.al;omega
 lt:=by
  have:=hd ((a-k)/8-1)
  omega
 k40:=aa
 eq:=by
  have z:=h.al
  have hb:=hd ((a-k)/8-1)
  obtain⟨w,r⟩:∃w,min (k+8) 32=w+8:=⟨min (k+8) 32-8,aa⟩
  rw[r,Nat.add_comm w 8,show a-(k+8)=8*((a-k)/8-1) from aa,tE d hd,show 8*((a-k)/8-1+1)=a-k from aa];have l:B%2^w=aq d (a-k) w:=by
   have g:w<=min k 32:=aa
   rw[<- fw d (a-k) g,<- h.eq,Nat.mod_mod_of_dvd _ (Nat.pow_dvd_pow 2 g)]
  have t:(8:Nat)+w<=32:=aa
  have j:(B*2^8%2^32+d ((a-k)/8-1))%2^(8+w)=(B*2^8+d ((a-k)/8-1))%2^(8+w):=by
   rw[Nat.add_mod,Nat.mod_mod_of_dvd _ (Nat.pow_dvd_pow 2 t),<- Nat.add_mod]
  rw[j,<- l];generalize d ((a-k)/8-1)=y at hb;rw[show 2^(8+w)=256*2^w by rw[Nat.pow_add]]
  have q:=Nat.mod_mul (x:=B*2^8+y) (a:=256) (b:=2^w)
  rw[q];have u:(B*2^8+y)%256=y:=aa
  have p:(B*2^8+y)/256=B:=aa
  rw[u,p]
theorem HX (B c:Nat) (g:c<256):(B*2^8%2^32)|||c=B*2^8%2^32+c:=by
 have h:B*2^8%2^32=B%2^24*2^8:=aa
 rw[h,Nat.or_comm,fQ (j:=8) g,Nat.add_comm]
theorem nk (j q:Nat) (p:Option Addr) (n l:Nat) (hd:∀i,d i<256) (U:aU G p n l d) (hn:n<=2^20) (a k B start b:Nat) (V:iE d a k B) (ha:a<=8*n+7) (u:(a-k)/8<=n) (K:start<2^32) (hb:b<=32) :
  av Tryz.prog G 112 #[bf j,.int .u8 (b:Nat)] [(j,nG q p n l ((a-k)/8) start B k)] (fun v m =>
   ((b<=k\/8*start+b<=a)/\v = .bool true/\∃k' B',b<=k'/\(k'=k\/k'<=b+7)/\iE d a k' B'/\(a-k')/8<=n/\m=[(j,nG q p n l ((a-k')/8) start B' k')]) \/
   (¬(b<=k\/8*start+b<=a)/\v = .bool false/\∃off B' k',off<2^32/\m=[(j,nG q p n l off start B' k')])):=by
 refine bE Tryz.func112 fun c h0 hex=>?_
 refine go ?_
 refine aH (σ:=Nat×Nat) [] (fun _=>[(0,bf j),(1,.int .u8 (b:Nat))]) (fun t=>[(j,nG q p n l ((a-t.1)/8) start t.2 t.1)])
  (fun t=>iE d a t.1 t.2/\(t.1=k\/(k<b/\start<=(a-t.1)/8))/\(a-t.1)/8<=n/\(t.1=k\/t.1<=b+7)) (fun t=>64-t.1) (k,B) (.refl _) ⟨V,.inl rfl,u,.inl rfl⟩ ?_
 rintro⟨g,z⟩ f ⟨h,J,H,C⟩
 dsimp only at h J H C ⊢
 have W:=h.al
 have Y:=h.le
 have r:=h.lt
 have O:=h.k40
 refine go ?_
 refine ac rfl (fun r=>?_) (fun I=>?_)
 ·refine go ?_;refine ac rfl (fun F=>?_) (fun M=>?_)
  ·refine go ?_;exact af (ag [4] (.inr ⟨aa,rfl,(a-g)/8,_,_,aa,rfl⟩))
  ·obtain⟨b0,o0,rfl⟩:=U.some aa;have y:=hd ((a-g)/8-1)
   refine go ?_;refine zD rfl rfl rfl rfl rfl rfl ?_
   rw[show(2:Nat)^IntKind.u32.bits=2^32 from rfl];refine go ?_;refine gb rfl rfl rfl rfl (by show _<2^32;omega) (by show _<2^32;omega) (HX z _ y) rfl ?_
   refine go ?_;refine⟨(g+8,z*2^8%2^32+d ((a-g)/8-1)),by dsimp only;omega,⟨h.push hd aa aa,by dsimp only;omega,by dsimp only;omega,.inr (by dsimp only;omega)⟩,cF,.cons ((Fz q _ n l _ _ _ _ _ _ _ _).trans ?_) .nil⟩
   dsimp only;rw[show(a-g)/8-1=(a-(g+8))/8 from aa]
 ·refine go ?_;exact af (ag [4] (.inl ⟨aa,rfl,g,z,aa,C,h,H,rfl⟩))
def dQ (d:Nat->Nat) (a b:Nat):Nat:=aq d (a-b) (min b (32-(a-b)%8))
theorem eS (d:Nat->Nat) (a b:Nat):dQ d a b<2^b:=Nat.lt_of_lt_of_le (aY d _ _) (Nat.pow_le_pow_right aa aa)
theorem vw {a k b B:Nat} (h:iE d a k B) (hb:b<=k) (t:k<=b+7):B/2^(k-b)%2^b=dQ d a b:=by
 have p:=h.al
 have l:=h.le
 have r:(a-b)%8=k-b:=aa
 unfold dQ
 rw[r]
 have g:=h.eq
 by_cases i:k<=32
 ·rw[Nat.min_eq_left i] at g;rw[Nat.min_eq_left (by omega:b<=32-(k-b))]
  have q:B/2^(k-b)%2^b=B%2^k/2^(k-b):=by
   have:2^k=2^(k-b)*2^b:=by rw[<- Nat.pow_add];congr 1;omega
   rw[this,Nat.mod_mul_right_div_self]
  rw[q,g,fx d _ aa];rw[show a-k+(k-b)=a-b from aa,show k-(k-b)=b from aa]
 ·have j:min k 32=32:=aa
  rw[j,Nat.mod_eq_of_lt h.lt] at g;rw[Nat.min_eq_right (by omega:32-(k-b)<=b),g,fx d _ (by omega:k-b<=32),show a-k+(k-b)=a-b from aa]
  exact Nat.mod_eq_of_lt (Nat.lt_of_lt_of_le (aY d _ _) (Nat.pow_le_pow_right aa aa))
theorem iE.less {a k b B:Nat} (h:iE d a k B) (hb:b<=k):iE d (a-b) (k-b) B where
 le:=by have:=h.le;omega
 al:=by have:=h.al;have:=h.le;rw[show a-b-(k-b)=a-k from aa];exact h.al
 lt:=h.lt
 eq:=by
  have i:=h.le
  have g:min (k-b) 32<=min k 32:=aa
  rw[show a-b-(k-b)=a-k from aa,<- fw d (a-k) g,<- h.eq,Nat.mod_mod_of_dvd _ (Nat.pow_dvd_pow 2 g)]
 k40:=by have:=h.k40;omega
end Go.Proofs.YtogmacnlpclgkaaGreatDoor
