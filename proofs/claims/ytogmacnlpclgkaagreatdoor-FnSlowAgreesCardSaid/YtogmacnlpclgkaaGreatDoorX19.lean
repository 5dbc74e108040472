/- Texts 19. -/
import Derived.Test.YtogmacnlpclgkaaGreatDoorX18
set_option linter.all false
namespace Go.Proofs.YtogmacnlpclgkaaGreatDoor
open Go Go.Eng Go.Pz
theorem ul {w:Nat->Nat} {v j:Nat}:∀{n:Nat},j<bW w n v->∃i,i<n/\w i=v/\bW w i v=j
 | 0,h=>absurd h (Nat.not_lt_zero _)
 | n+1,h=>by
  by_cases k:j<bW w n v
  ·obtain⟨i,g,l⟩:=ul k;exact⟨i,aa,l⟩
  ·rw[bW] at h;by_cases g:w n=v
   ·rw[ai g] at h;exact⟨n,aa,g,aa⟩
   ·rw[ah g] at h;omega
theorem sH {w:Nat->Nat} {n p:Nat}:∀{k:Nat},p<aM w n k->∃v,v<k/\aM w n v<=p/\p<aM w n (v+1)
 | 0,h=>by rw[iF] at h;omega
 | k+1,h=>by
  by_cases g:p<aM w n k
  ·obtain⟨v,j,i⟩:=sH g;exact⟨v,aa,i⟩
  ·exact⟨k,aa,aa,h⟩
def mG (w:Nat->Nat) (n i p:Nat):Prop:=w i≠0/\fg w n i<=p/\p<fg w n i+2^(w i-1)
theorem FE {w:Nat->Nat} {n p k:Nat} (h:p<aM w n k):∃i,i<n/\w i<=k/\mG w n i p:=by
 obtain⟨v,A,z,u⟩:=sH h
 rw[iG] at u
 have g:=Nat.two_pow_pos v
 have q:(p-aM w n v)/2^v<bW w n (v+1):=(Nat.div_lt_iff_lt_mul g).2 aa
 obtain⟨i,t,j,r⟩:=ul q
 refine⟨i,t,aa,aa,?_⟩
 unfold fg
 rw[j,Nat.add_sub_cancel,r]
 have l:=Nat.div_add_mod (p-aM w n v) (2^v)
 have y:=Nat.mod_lt (p-aM w n v) g
 rw[Nat.mul_comm] at l
 omega
theorem Dq {w:Nat->Nat} {n i j p:Nat} (hi:i<n) (l:j<n) (t:mG w n i p) (r:mG w n j p):i=j:=by
 have key:∀{i j:Nat},i<n->j<n->mG w n i p->mG w n j p->¬i<j:=by
  intro i j hi l ⟨a1,a2,a3⟩ ⟨b1,b2,b3⟩ hlt
  rcases Nat.lt_trichotomy (w i) (w j) with h|h|h
  ·have g:=nq w hi a1 (aZ (w i))
   have q:=gg w (k:=w i) (k':=w j-1) aa n
   unfold fg at b2;omega
  ·have g:=np w (w i) (i:=i+1) j hlt
   rw[bW,ai rfl] at g;unfold fg at a3 b2;rw[<- h] at b2;have q:(bW w i (w i)+1)*2^(w i-1)<=bW w j (w i)*2^(w i-1):=Nat.mul_le_mul_right _ g
   rw[Nat.add_mul,Nat.one_mul] at q;omega
  ·have g:=nq w l b1 (aZ (w j))
   have q:=gg w (k:=w j) (k':=w i-1) aa n
   unfold fg at a2;omega
 rcases Nat.lt_trichotomy i j with h|h|h
 ·exact absurd h (key hi l t r)
 ·exact h
 ·exact absurd h (key l hi r t)
theorem iY {w:Nat->Nat} {n tb p i:Nat} {old:Nat->Nat} (hi:i<n) (h:mG w n i p):∀m,i<m->m<=n->dP w n tb old m p=i*256+(tb+1-w i)
 | 0,h1,_=>absurd h1 (Nat.not_lt_zero _)
 | m+1,h1,h2=>by
  rw[dP];by_cases g:i=m
  ·subst g;rw[ah h.1];exact ai h.2
  ·have j:=iY (tb:=tb) (old:=old) hi h m aa aa
   by_cases h0:w m=0
   ·rw[ai h0];exact j
   ·rw[ah h0];exact(ah fun k=>g (Dq hi aa h ⟨h0,k⟩)).trans j
theorem gq {w:Nat->Nat} {n tb p:Nat} {old:Nat->Nat} (hs:aM w n tb=2^tb) (j:p<2^tb):∃i,i<n/\w i<=tb/\mG w n i p/\dP w n tb old n p=i*256+(tb+1-w i):=by
 obtain⟨i,g,l,h⟩:=FE (w:=w) (n:=n) (k:=tb) (by rw[hs];exact j)
 exact⟨i,g,l,h,iY g h n g (aZ _)⟩
section
variable (ht:Nat->Nat) (hb:Nat) (d:Nat->Nat)
def fT (a:Nat):Nat:=ht (aq d (a-hb) hb)
def gz (a:Nat):Nat->Nat
 | 0=>a
 | i+1=>gz a i-fT ht hb d (gz a i)%256
def dE (st a K:Nat):Prop:=∀i,i<K->8*st+hb<=gz ht hb d a i
instance (st a K:Nat):Decidable (dE ht hb d st a K):=by unfold dE;infer_instance
def lW (a i:Nat):Nat:=fT ht hb d (gz ht hb d a i)/256
def dU (o:Nat):Nat:=8*o+Nat.log2 (d o)
end
def xf (ht:Nat->Nat) (hb:Nat) (d:Nat->Nat) (off cs K:Nat):Option (Nat->Nat) :=
 if d (off+cs-1)=0 then none
 else if dE ht hb d (off-2) (dU d (off+cs-1)) K then some (lW ht hb d (dU d (off+cs-1)))
 else none
def qS (ht:Nat->Nat) (hb:Nat) (d:Nat->Nat) (h o1 o2 o3 g K:Nat):Option (Nat->Nat) :=
 if d o1=0\/d o2=0\/d o3=0\/d g=0 then none
 else if dE ht hb d (h-1) (dU d o1) ((K+3)/4)/\dE ht hb d (o1-1) (dU d o2) ((K+3)/4)/\dE ht hb d (o2-1) (dU d o3) ((K+3)/4)/\dE ht hb d (o3-1) (dU d g) (K-(K+3)/4*3) then
  some fun i=>if i<(K+3)/4 then lW ht hb d (dU d o1) i
   else if i<(K+3)/4+(K+3)/4 then lW ht hb d (dU d o2) (i-(K+3)/4)
   else if i<(K+3)/4+(K+3)/4+(K+3)/4 then lW ht hb d (dU d o3) (i-((K+3)/4+(K+3)/4))
   else lW ht hb d (dU d g) (i-((K+3)/4+(K+3)/4+(K+3)/4))
 else none
def nI (ht:Nat->Nat) (hb:Nat) (d:Nat->Nat) (n off g K:Nat):Option (Nat->Nat) :=
 if n<=off+5 then none
 else if g<6 then none
 else if K<(K+3)/4*3 then none
 else
  let s1:=d off+d (off+1)*256
  let s2:=d (off+2)+d (off+3)*256
  let s3:=d (off+4)+d (off+5)*256
  if g-6<s1+s2+s3 then none
  else qS ht hb d (off+5) (off+5+s1) (off+5+s1+s2) (off+5+s1+s2+s3) (off+5+s1+s2+s3+(g-6-(s1+s2+s3))) K
structure sI where
 base:Nat
 more:Nat
 bits:Nat
 next:Nat
structure eQ where
 log:Nat
 cell:Nat->sI
structure CE where
 r1:Nat
 r2:Nat
 r3:Nat
 hb:Nat
 ht:Nat->Nat
 t0:Option eQ
 t1:Option eQ
 t2:Option eQ
def CE.zero:CE:=⟨0,0,0,0,fun _=>0,none,none,none⟩
def CE.ini (e:CE):CE:=⟨1,4,8,0,e.ht,none,none,none⟩
def ia (d:Nat->Nat) (n:Nat):Option (Nat×Nat×(Nat->Nat)) :=
 let f:=d 0/4%4
 let h:=if f=1 then 2 else if f=3 then 3 else 1
 if n<h then none
 else
  let K:=if f=1 then d 0/16+d 1*16 else if f=3 then d 0/16+d 1*16+d 2*4096 else d 0/8
  if 131072<K then none
  else if d 0%4=0 then(if n<h+K then none else some (h+K,K,fun i=>d (h+i)))
  else if n<=h then none else some (h+1,K,fun _=>d h)
def di (d:Nat->Nat):Nat×Nat×Nat :=
 let f:=d 0/4%4
 if f=3 then(5,d 0/16+d 1*16+d 2%64*4096,d 2/64+d 3*4+d 4*1024)
 else if f=2 then(4,d 0/16+d 1*16+d 2%4*4096,d 2/4+d 3*64)
 else(3,d 0/16+d 1%64*16,d 1/64+d 2*4)
def nJ (e:CE) (d:Nat->Nat) (n off g K:Nat):Option (Nat->Nat):=if d 0/4%4=0 then xf e.ht e.hb d off g K else nI e.ht e.hb d n off g K
def eJ (e:CE) (d:Nat->Nat) (n:Nat):CE×Option (Nat×Nat×(Nat->Nat)) :=
 let h:=di d
 if n<h.1 then(e,none)
 else if 131072<h.2.1 then(e,none)
 else if n<h.1+h.2.2 then(e,none)
 else if d 0%4=2 then
  match eN d n h.1 e.ht with
  | none=>(e,none)
  | some (g,b,q) =>
   let e':={ e with ht:=g,hb:=b }
   if h.2.2<q-h.1 then(e',none)
   else(e',(nJ e' d n q (h.2.2-(q-h.1)) h.2.1).map fun L=>(h.1+h.2.2,h.2.1,L))
 else if e.hb=0 then(e,none)
 else(e,(nJ e d n h.1 h.2.2 h.2.1).map fun L=>(h.1+h.2.2,h.2.1,L))
def lits (e:CE) (d:Nat->Nat) (n:Nat):CE×Option (Nat×Nat×(Nat->Nat)) :=
 if n=0 then(e,none)
 else if d 0%4<2 then(e,ia d n)
 else eJ e d n
def fA:List (Nat×Nat):=[(16,1),(18,1),(20,1),(22,1),(24,2),(28,2),(32,3),(40,3),(48,4),(64,6),(128,7),(256,8),(512,9),(1024,10),(2048,11),(4096,12),(8192,13),(16384,14),(32768,15),(65536,16)]
def fB:List (Nat×Nat):=[(35,1),(37,1),(39,1),(41,1),(43,2),(47,2),(51,3),(59,3),(67,4),(83,4),(99,5),(131,7),(259,8),(515,9),(1027,10),(2051,11),(4099,12),(8195,13),(16387,14),(32771,15),(65539,16)]
def cg (kind s:Nat):Nat×Nat :=
 if kind=0 then(if s<16 then(s,0) else fA.getD (s-16) (0,0))
 else if kind=1 then(2^s-(if 2<=s then 3 else 0),s)
 else(if s<32 then(s+3,0) else fB.getD (s-32) (0,0))
def dF (kind:Nat):Nat:=if kind=0 then 35 else if kind=1 then 31 else 52
def dD (kind:Nat):Nat:=if kind=1 then 8 else 9
def cX (kind s b x:Nat):sI:=⟨(cg kind s).1,(cg kind s).2,b,x⟩
def zU:List (Nat×Nat×Nat×Nat):=[(0,0,4,0),(0,0,4,16),(1,0,5,32),(3,0,5,0),(4,0,5,0),(6,0,5,0),(7,0,5,0),(9,0,5,0),(10,0,5,0),(12,0,5,0),(14,0,6,0),(16,1,5,0),(20,1,5,0),(22,1,5,0),(28,2,5,0),(32,3,5,0),(48,4,5,0),(64,6,5,32),(128,7,5,0),(256,8,6,0),(1024,10,6,0),(4096,12,6,0),(0,0,4,32),(1,0,4,0),(2,0,5,0),(4,0,5,32),(5,0,5,0),(7,0,5,32),(8,0,5,0),(10,0,5,32),(11,0,5,0),(13,0,6,0),(16,1,5,32),(18,1,5,0),(22,1,5,32),(24,2,5,0),(32,3,5,32),(40,3,5,0),(64,6,4,0),(64,6,4,16),(128,7,5,32),(512,9,6,0),(2048,11,6,0),(0,0,4,48),(1,0,4,16),(2,0,5,32),(3,0,5,32),(5,0,5,32),(6,0,5,32),(8,0,5,32),(9,0,5,32),(11,0,5,32),(12,0,5,32),(15,0,6,0),(18,1,5,32),(20,1,5,32),(24,2,5,32),(28,2,5,32),(40,3,5,32),(48,4,5,32),(65536,16,6,0),(32768,15,6,0),(16384,14,6,0),(8192,13,6,0)]
def zV:List (Nat×Nat×Nat×Nat):=[(1,0,5,0),(61,6,4,0),(509,9,5,0),(32765,15,5,0),(2097149,21,5,0),(5,3,5,0),(125,7,4,0),(4093,12,5,0),(262141,18,5,0),(8388605,23,5,0),(29,5,5,0),(253,8,4,0),(16381,14,5,0),(1048573,20,5,0),(1,2,5,0),(125,7,4,16),(2045,11,5,0),(131069,17,5,0),(4194301,22,5,0),(13,4,5,0),(253,8,4,16),(8189,13,5,0),(524285,19,5,0),(2,1,5,0),(61,6,4,16),(1021,10,5,0),(65533,16,5,0),(268435453,28,5,0),(134217725,27,5,0),(67108861,26,5,0),(33554429,25,5,0),(16777213,24,5,0)]
def zW:List (Nat×Nat×Nat×Nat):=[(3,0,6,0),(4,0,4,0),(5,0,5,32),(6,0,5,0),(8,0,5,0),(9,0,5,0),(11,0,5,0),(13,0,6,0),(16,0,6,0),(19,0,6,0),(22,0,6,0),(25,0,6,0),(28,0,6,0),(31,0,6,0),(34,0,6,0),(37,1,6,0),(41,1,6,0),(47,2,6,0),(59,3,6,0),(83,4,6,0),(131,7,6,0),(515,9,6,0),(4,0,4,16),(5,0,4,0),(6,0,5,32),(7,0,5,0),(9,0,5,32),(10,0,5,0),(12,0,6,0),(15,0,6,0),(18,0,6,0),(21,0,6,0),(24,0,6,0),(27,0,6,0),(30,0,6,0),(33,0,6,0),(35,1,6,0),(39,1,6,0),(43,2,6,0),(51,3,6,0),(67,4,6,0),(99,5,6,0),(259,8,6,0),(4,0,4,32),(4,0,4,48),(5,0,4,16),(7,0,5,32),(8,0,5,32),(10,0,5,32),(11,0,5,32),(14,0,6,0),(17,0,6,0),(20,0,6,0),(23,0,6,0),(26,0,6,0),(29,0,6,0),(32,0,6,0),(65539,16,6,0),(32771,15,6,0),(16387,14,6,0),(8195,13,6,0),(4099,12,6,0),(2051,11,6,0),(1027,10,6,0)]
def Jo (kind:Nat):List (Nat×Nat×Nat×Nat):=if kind=0 then zU else if kind=1 then zV else zW
def iH (t:Nat×Nat×Nat×Nat):sI:=⟨t.1,t.2.1,t.2.2.1,t.2.2.2⟩
def gh (kind:Nat):eQ:=⟨if kind=1 then 5 else 6,fun p=>iH ((Jo kind).getD p (0,0,0,0))⟩
def Dr (kind s:Nat):eQ:=⟨0,fun _=>cX kind s 0 0⟩
def sJ (kind log:Nat) (sh:Nat->Int):eQ:=⟨log,fun p=>cX kind (aI sh (dF kind+1) (2^log) p) (aG sh (dF kind+1) log p) (bO sh (dF kind+1) log p)⟩
def ep (t:Option eQ) (kind mode:Nat) (d:Nat->Nat) (n off:Nat):Option (eQ×Nat) :=
 if mode=0 then some (gh kind,off)
 else if mode=1 then
  if n<=off then none
  else if dF kind<d off then none
  else some (Dr kind (d off),off+1)
 else if mode=2 then(eI true d n (dD kind) (dF kind) (8*off)).map fun r=>(sJ kind r.1 r.2.1,(r.2.2.2+7)/8)
 else t.map fun t=>(t,off)
def nK (d:Nat->Nat) (n off:Nat):Option (Nat×Nat) :=
 if n<=off then none
 else if d off<128 then some (d off,off+1)
 else if d off<255 then(if n<=off+1 then none else some ((d off-128)*256+d (off+1),off+2))
 else if n<=off+2 then none else some (d (off+1)+d (off+2)*256+32512,off+3)
def ig (e:CE) (d:Nat->Nat) (n off md:Nat):CE×Option Nat :=
 match ep e.t0 0 (md/64%4) d n off with
 | none=>(e,none)
 | some (t0,o1) =>
  match ep e.t1 1 (md/16%4) d n o1 with
  | none=>({ e with t0:=some t0 },none)
  | some (t1,o2) =>
   match ep e.t2 2 (md/4%4) d n o2 with
   | none=>({ e with t0:=some t0,t1:=some t1 },none)
   | some (t2,o3)=>({ e with t0:=some t0,t1:=some t1,t2:=some t2 },some o3)
def cU (e:CE) (d:Nat->Nat) (n off:Nat):CE×Option (Nat×Nat) :=
 match nK d n off with
 | none=>(e,none)
 | some (c,o) =>
  if d off=0 then(e,some (0,o))
  else if n<=o then(e,none)
  else if d o%4≠0 then(e,none)
  else
   let r:=ig e d n (o+1) (d o)
   (r.1,r.2.map fun q=>(c,q))
def iR (S:Nat->Nat) (bl:Nat) (L:Nat->Nat) (wl o:Nat):Nat->Nat->Nat
 | 0=>S
 | k+1=>cV (iR S bl L wl o k) (bl+k) (if bl+k<o then L (wl+(bl+k)-o) else iR S bl L wl o k (bl+k-o))
def fj (S:Nat->Nat) (bl k:Nat) (T:Nat->Nat):Nat->Nat:=fun i=>if bl<=i/\i<bl+k then T (i-bl) else S i
def mI (more v ll g h i:Nat):Nat×Nat×Nat×Nat :=
 if 1<more then(v,v,g,h)
 else
  let o:=v+if ll=0 then 1 else 0
  if o=1 then(g,g,h,i)
  else if o=2 then(h,h,g,i)
  else if o=3 then(i,i,g,h)
  else if o=4 then((g+4294967295)%4294967296,(g+4294967295)%4294967296,g,h)
  else(o,g,h,i)
structure XS where
 r1:Nat
 r2:Nat
 r3:Nat
 S:Nat->Nat
 bl:Nat
 lo:Nat
 a:Nat
 s0:Nat
 s1:Nat
 s2:Nat
section
variable (T0 T1 T2:eQ) (d:Nat->Nat) (st:Nat) (L:Nat->Nat) (wl:Nat) (LT:Nat->Nat) (ll:Nat)
def n8 (x:XS) (li o g:Nat):XS×Bool :=
 if ll-x.lo<li then(x,false)
 else
  let x1:XS:={ x with S:=fj x.S x.bl li fun i=>LT (x.lo+i),bl:=x.bl+li,lo:=x.lo+li }
  if g=0 then(x1,true)
  else if o=0 then(x1,false)
  else if x1.bl<o/\wl<o-x1.bl then(x1,false)
  else({ x1 with S:=iR x1.S x1.bl L wl o g,bl:=x1.bl+g },true)
def iI (last:Bool) (x:XS):XS×Bool :=
 if 131072<x.bl+(ll-x.lo) then(x,false)
 else
  let c0:=T0.cell x.s0
  let c1:=T1.cell x.s1
  let c2:=T2.cell x.s2
  if ¬jM st x.a c1.more then(x,false)
  else if ¬jM st (x.a-c1.more) c2.more then(x,false)
  else if ¬jM st (x.a-c1.more-c2.more) c0.more then(x,false)
  else
   let v1:=c1.base+dQ d x.a c1.more
   let v2:=c2.base+dQ d (x.a-c1.more) c2.more
   let v0:=c0.base+dQ d (x.a-c1.more-c2.more) c0.more
   let r:=mI c1.more v1 v0 x.r1 x.r2 x.r3
   let a:=x.a-c1.more-c2.more-c0.more
   let x1:XS:={ x with r1:=r.2.1,r2:=r.2.2.1,r3:=r.2.2.2,a:=a }
   if last then n8 L wl LT ll x1 v0 r.1 v2
   else if ¬jM st a c0.bits then(x1,false)
   else if ¬jM st (a-c0.bits) c2.bits then(x1,false)
   else if ¬jM st (a-c0.bits-c2.bits) c1.bits then(x1,false)
   else n8 L wl LT ll { x1 with a:=a-c0.bits-c2.bits-c1.bits,s0:=c0.next+dQ d a c0.bits,s2:=c2.next+dQ d (a-c0.bits) c2.bits,s1:=c1.next+dQ d (a-c0.bits-c2.bits) c1.bits } v0 r.1 v2
def dy:Nat->XS->XS×Bool
 | 0,x=>(x,true)
 | k+1,x=>if(iI T0 T1 T2 d st L wl LT ll (decide (k=0)) x).2 then dy k (iI T0 T1 T2 d st L wl LT ll (decide (k=0)) x).1 else iI T0 T1 T2 d st L wl LT ll (decide (k=0)) x
end
def eQ.none:eQ:=⟨0,fun _=>⟨0,0,0,0⟩⟩
def eu (e:CE) (d:Nat->Nat) (n off cnt:Nat) (L:Nat->Nat) (wl:Nat) (LT:Nat->Nat) (ll:Nat) (S:Nat->Nat):XS×Bool :=
 let T0:=e.t0.getD eQ.none
 let T1:=e.t1.getD eQ.none
 let T2:=e.t2.getD eQ.none
 let a:=dU d (n-1)
 let x:XS:=⟨e.r1,e.r2,e.r3,S,0,0,a-T0.log-T1.log-T2.log,dQ d a T0.log,dQ d (a-T0.log) T1.log,dQ d (a-T0.log-T1.log) T2.log⟩
 if d (n-1)=0 then(x,false)
 else if ¬jM off a T0.log then(x,false)
 else if ¬jM off (a-T0.log) T1.log then(x,false)
 else if ¬jM off (a-T0.log-T1.log) T2.log then(x,false)
 else
  let r:=dy T0 T1 T2 d off L wl LT ll cnt x
  if r.2=false then r
  else({ r.1 with S:=fj r.1.S r.1.bl (ll-r.1.lo) fun i=>LT (r.1.lo+i),bl:=r.1.bl+(ll-r.1.lo) },decide (r.1.a%8=0))
end Go.Proofs.YtogmacnlpclgkaaGreatDoor
namespace Go.Eng
open Go Go.Proofs.YtogmacnlpclgkaaGreatDoor
theorem pU (u:Nat×bk) (a s j:ao):(u::(a++(s++j))).Perm (a++(s++(u::j))) :=
 (List.perm_middle (l₁:=a) (a:=u) (l₂:=s++j)).symm.trans (List.Perm.append_left a List.perm_middle.symm)
theorem Kp.more {a b c:ao} {u:Nat×bk} (h:Kp a (b++c)):Kp a (b++u::c) :=
 h.trans (Kp.sub fun _ g=>(List.mem_append.1 g).elim (fun h=>List.mem_append.2 (.inl h)) fun h=>List.mem_append.2 (.inr (List.mem_cons_of_mem _ h)))
theorem JN {A B:Prop} (k:B) (h:wM B->A:=by
  intro g
  repeat((try refine gB (by conv=>lhs;whnf) ?_);first
   | (apply kt)
   | (apply r9;exact rfl;exact rfl;(focus ((repeat(with_reducible constructor));done));omega;exact rfl)
   | (apply qG;exact rfl;exact rfl;(with_reducible assumption);omega;exact rfl)
   | (apply wG;exact rfl;exact rfl;(with_reducible assumption);omega;exact rfl)
   | (apply mT;exact rfl;exact rfl;(focus ((repeat constructor);done));(first|exact rfl|exact el (by assumption)|exact el (by omega));(first|with_reducible assumption|(conv=>lhs;whnf;try dsimp only[RS.wRv,RS.wBuf,RS.wOff,RS.wRem,RS.wSaw,RS.wWin,RS.wRep,RS.wHuf,RS.wCb,RS.wLit,RS.wFs,RS.wScr,RS.wChk,RS.wSeq]));exact rfl)
   | (apply ke;exact rfl;exact rfl;(first|with_reducible rfl|exact aN _);exact rfl;(focus ((repeat(with_reducible constructor));done));omega;assumption)
   | (apply mp;exact rfl;(first|with_reducible assumption|conv=>lhs;whnf);exact rfl;(first|exact rfl|with_reducible assumption);(focus ((repeat constructor);done));(first|exact rfl|exact el (by assumption)|exact el (by omega));(first|exact rfl|assumption);assumption)
   | (apply zu;exact rfl;exact rfl;(first|with_reducible rfl|exact aN _);(first|with_reducible rfl|exact aN _);exact nE;exact rfl)
   | (apply zv;exact rfl;exact rfl;(first|with_reducible rfl|exact aN _);(first|with_reducible rfl|exact aN _);omega;exact nE;exact rfl)
   | (apply r7;exact rfl;(first|with_reducible rfl|exact aN _);exact rfl;exact rfl;exact nE;exact rfl)
   | (apply wF;exact rfl;(first|with_reducible rfl|exact aN _);exact rfl;exact rfl;exact rfl)
   | (apply r8;exact rfl;(first|with_reducible rfl|exact aN _);exact rfl;exact rfl;exact rfl;exact rfl)
   | (apply CM;exact rfl;exact rfl;(first|with_reducible rfl|exact aN _);exact rfl;exact rfl;omega;exact rfl)
   | (apply rA;exact rfl;exact rfl;(first|with_reducible rfl|exact aN _);exact rfl;exact rfl;omega;exact rfl)
   | (apply CL;exact rfl;exact rfl;(first|with_reducible rfl|exact aN _);exact rfl;exact rfl;omega;exact rfl)
   | (apply zG;exact rfl;exact rfl;(first|with_reducible rfl|exact aN _);exact rfl;exact rfl;omega;exact rfl)
   | (apply CN;exact rfl;exact rfl;exact rfl;exact rfl;(first|with_reducible rfl|exact aN _);omega;exact rfl)
   | (apply CO;exact rfl;exact rfl;exact rfl;exact rfl;exact rfl;(first|with_reducible rfl|exact aN _);(first|with_reducible rfl|exact aN _);omega;omega;omega;exact rfl)
   | (apply zH;exact rfl;exact rfl;exact rfl;exact rfl;(first|with_reducible rfl|exact aN _);omega;exact rfl)
   | (apply zI;exact rfl;exact rfl;exact rfl;exact rfl;exact rfl;(first|with_reducible rfl|exact aN _);(first|with_reducible rfl|exact aN _);omega;omega;omega;exact rfl)
   | (apply j_ (b:=true);exact rfl;(first|with_reducible assumption|conv=>lhs;whnf);exact rfl)
   | (apply j_ (b:=false);exact rfl;(first|with_reducible assumption|conv=>lhs;whnf);exact rfl)
   | (apply oU;exact rfl)
   | (apply ly;exact rfl;exact rfl)
   | (apply m6;exact rfl;exact rfl;(first|with_reducible rfl|decide);exact rfl)
   | (apply m7;exact rfl;exact rfl;decide;exact rfl)
   | (apply lx;exact rfl;exact rfl;exact rfl;(first|with_reducible rfl|decide);exact rfl)
   | (apply kG;exact rfl;exact rfl;exact rfl)
   | (apply mh;exact rfl;exact rfl;exact rfl)
   | (apply oP;exact rfl;exact rfl;exact rfl;exact rfl)
   | (apply mY;exact rfl;exact rfl;exact rfl;exact rfl)
   | (apply mZ;exact rfl;exact rfl;exact rfl;exact rfl)
   | (apply zF;exact rfl;exact rfl;(first|with_reducible rfl|exact aN _);(first|with_reducible rfl|exact aN _);exact nE;exact nE;(first|exact GU _|exact GV _|exact GW _|exact CH _|exact CI _|exact CJ _|exact zt _|exact wE _|exact CK _|exact rfl);exact rfl)
   | (apply zE;exact rfl;exact rfl;(first|with_reducible rfl|exact aN _);(first|with_reducible rfl|exact aN _);(first|decide|(simp only[IntKind.bits];omega));exact rfl)
   | (apply uU;exact rfl;exact rfl;(first|with_reducible rfl|exact aN _);(first|with_reducible rfl|exact aN _);(first|decide|(simp only[IntKind.bits];omega));exact nE;exact rfl)
   | (apply zw;exact rfl;exact rfl;(first|with_reducible rfl|exact aN _);(first|with_reducible rfl|exact aN _);exact nE;exact rfl)
   | (apply zx;exact rfl;exact rfl;(first|with_reducible rfl|exact aN _);(first|with_reducible rfl|exact aN _);omega;exact nE;exact rfl)
   | (apply zC;exact rfl;exact rfl;(first|with_reducible rfl|exact aN _);(first|with_reducible rfl|exact aN _);omega;exact rfl)
   | (apply rS;exact rfl;exact rfl;exact x6;exact rfl)
   | (apply rT;exact rfl;exact rfl;exact x6;exact rfl)
   | (apply mR;exact rfl;exact rfl;exact rfl;exact x6;exact rfl)
   | (apply rx;exact rfl;exact rfl)
   | (apply ry;exact rfl;exact rfl)
   | (apply rp;exact rfl;exact rfl)
   | (apply lk;exact rfl;exact rfl)
   | (apply ro;(first|with_reducible assumption|conv=>lhs;whnf);exact rfl)
   | (apply mQ;(first|with_reducible assumption|conv=>lhs;whnf);exact rfl)
   | (apply gl;(first|with_reducible assumption|conv=>lhs;whnf);exact rfl;exact rfl)
   | (apply iN;(first|with_reducible assumption|conv=>lhs;whnf);exact rfl)
   | (apply lj;exact rfl;exact rfl;exact rfl)
   | (apply mn;exact rfl;exact rfl;(focus ((repeat constructor);done));(first|exact rfl|exact el (by assumption)|exact el (by omega));(first|with_reducible assumption|conv=>lhs;whnf);exact rfl)
   | refine dk ?_
   | refine oJ (qs:=qsT) mixed_ok (by kernel_rfl) ?_
   | refine fW ?_
   | refine uL ?_
   | refine rY rfl (by with_reducible rfl) ?_
   | refine oQ rfl (by with_reducible rfl) ?_)
  try refine gB (by conv=>lhs;whnf) ?_
  exact wM.out g):A:=h ⟨k⟩
end Go.Eng
namespace Go.Proofs.YtogmacnlpclgkaaGreatDoor
open Go Go.Eng Go.Pz
attribute [local irreducible] RO J av aO
set_option maxRecDepth 20000
variable {G:ao} {d:Nat->Nat}
def J6 (S:bN G) (j:Nat) (x:Int) (s:RS) (sm:ao) (R:Option (Nat×Nat×(Nat->Nat))) (r:Value) (m:ao):Prop :=
 match R with
 | some (o,K,L)=>∃i g h,r = .tuple #[ay o,i,.nilIface]/\nd i K L g/\Kp sm (g++h)/\m=(j,az x s)::(g++h)
 | none=>∃e g,r = .tuple #[.int .i64 0,.slice none 0 0,e]/\jr S e/\Kp sm g/\m=(j,az x s)::g
def rJ (d:Nat->Nat) (n o K:Nat):Option (Nat×Nat×(Nat->Nat)) :=
 if 131072<K then none
 else if d 0%4=0 then(if n<o+K then none else some (o+K,K,fun i=>d (o+i)))
 else if n<=o then none else some (o+1,K,fun _=>d o)
structure J7 where
 i:Nat
 oa:Option Addr
 cp:Nat
 sm:ao
 jk:ao
set_option maxHeartbeats 2000000 in
theorem xg (S:bN G) (q:Nat) (x:Int) (s:RS) (da:Option Addr) (n cp:Nat) (hd:∀i,d i<256) (J:aU G da n cp d) (hn:n<=2^20) (h1:0<n) (h2:d 0%4<2) (va:Option Addr) (vc:Nat) (D:Nat->Nat) (sm:ao) (hl:nd (.slice va 0 vc) 0 D sm) :
  av Tryz.prog G 99 #[bf q,.slice da n cp,ay 1,.int .u8 (d 0:Nat),.slice va 0 vc] ((q,az x s)::sm) (J6 S q x s sm (ia d n)):=by
 refine bE Tryz.func99 fun c h0 hex=>?_
 obtain⟨hdr,r⟩:∃hdr,hdr=d 0:=⟨_,rfl⟩
 have hh:=hd 0
 rw[<- r] at hh h2 ⊢
 refine JN ?_
 refine bp (σ:=Nat×Nat) [0,1,4,13] (fun t=>[(2,ay t.1),(14,ay t.2)]) (fun _=>(q,az x s)::sm) (fun t=>ia d n=rJ d n t.1 t.2/\t.1<=n/\t.1<=3/\t.2<=2^20) ?_ ?_
 ·have u:ia d n=if n<(if hdr/4%4=1 then 2 else if hdr/4%4=3 then 3 else 1) then none else rJ d n (if hdr/4%4=1 then 2 else if hdr/4%4=3 then 3 else 1) (if hdr/4%4=1 then hdr/16+d 1*16 else if hdr/4%4=3 then hdr/16+d 1*16+d 2*4096 else hdr/8):=by rw[r];rfl
  have a5:=hd 1
  have a2:=hd 2
  refine go ?_;refine ac rfl (fun f0=>?_) (fun f0=>?_)
  ·refine go ?_;refine ac rfl (fun _=>?_) (fun h=>absurd f0 h)
   refine go ?_;have e:hdr/4%4=0:=aa
   refine⟨(1,hdr/8),⟨by rw[u,e];exact ah (by simp;omega),by dsimp only;omega,by dsimp only;omega,by dsimp only;omega⟩,joined (.refl _)⟩
  ·refine go ?_;refine ac rfl (fun f2=>?_) (fun f2=>?_)
   ·refine go ?_;have e:hdr/4%4=2:=aa
    refine⟨(1,hdr/8),⟨by rw[u,e];exact ah (by simp;omega),by dsimp only;omega,by dsimp only;omega,by dsimp only;omega⟩,joined (.refl _)⟩
   ·refine go ?_;refine ac rfl (fun f1=>?_) (fun f1=>?_)
    ·have e:hdr/4%4=1:=aa
     rw[e] at u;simp only[if_true] at u
     refine go ?_;refine ac rfl (fun hs=>?_) (fun hs=>?_)
     ·refine go ?_;refine ae (eZ S q x s _) ?_
      rintro v m ⟨⟨b',rfl⟩,rfl⟩;refine go ?_;refine af ?_;rw[u,ai aa];exact ag [10,11,12] (post:=(q,az x s)::sm) ⟨_,sm,rfl,.inl ⟨b',rfl⟩,Kp.refl _,rfl⟩
     ·obtain⟨b0,o0,rfl⟩:=J.some aa;refine go ?_;refine⟨(2,hdr/16+d 1*16),⟨by rw[u,ah aa],by dsimp only;omega,by dsimp only;omega,by dsimp only;omega⟩,joined (.refl _)⟩
    ·have e:hdr/4%4=3:=aa
     have u:ia d n=if n<3 then none else rJ d n 3 (hdr/16+d 1*16+d 2*4096):=by rw[u,e];rfl
     have ax:=hd (1+1)
     refine go ?_;refine ac rfl (fun f3=>?_) (fun f3=>absurd f3 aa)
     refine go ?_;refine ac rfl (fun hs=>?_) (fun hs=>?_)
     ·refine go ?_;refine ae (eZ S q x s _) ?_
      rintro v m ⟨⟨b',rfl⟩,rfl⟩;refine go ?_;refine af ?_;rw[u,ai aa];exact ag [10,11,12] (post:=(q,az x s)::sm) ⟨_,sm,rfl,.inl ⟨b',rfl⟩,Kp.refl _,rfl⟩
     ·obtain⟨b0,o0,rfl⟩:=J.some aa;refine go ?_;refine⟨(3,hdr/16+d 1*16+d 2*4096),⟨by rw[u,ah aa],by dsimp only;omega,by dsimp only;omega,by dsimp only;omega⟩,joined (.refl _)⟩
 ·rintro⟨o,K⟩ f ⟨g1,g2,g3,g4⟩;dsimp only at g1 g2 g3 g4 ⊢;rw[g1];unfold rJ;refine go ?_;refine ac rfl (fun a1=>?_) (fun a6=>?_)
  ·rw[ai aa];refine go ?_;refine ae (c_ S q x s _ _) ?_
   rintro v m ⟨⟨b',rfl⟩,rfl⟩;refine go ?_;refine af ?_;exact ag [10,11,12] (post:=(q,az x s)::sm) ⟨_,sm,rfl,.inl ⟨b',rfl⟩,Kp.refl _,rfl⟩
  ·rw[ah aa];refine go ?_;refine ac rfl (fun a0=>?_) (fun aw=>?_)
   ·rw[<- r,ai aa];refine go ?_;refine ac rfl (fun hb=>?_) (fun hb=>?_)
    ·rw[ai aa];refine go ?_;refine ae (c_ S q x s _ _) ?_
     rintro v m ⟨⟨b',rfl⟩,rfl⟩;refine go ?_;refine af ?_;exact ag [10,11,12] (post:=(q,az x s)::sm) ⟨_,sm,rfl,.inl ⟨b',rfl⟩,Kp.refl _,rfl⟩
    ·rw[ah aa];have a3:=J.le
     refine go ?_;refine cT o (o+K) J rfl rfl rfl rfl rfl rfl rfl aa aa rfl ?_
     have ab:=J.sub (l:=o) (h:=o+K) aa aa
     obtain⟨src,C,M⟩:=(aU.add (m:=(q,az x s)::sm) ab).src
     rw[Nat.add_sub_cancel_left] at C M ⊢;refine go ?_;refine uX (fm:=[(q,az x s)]) (sm:=sm) (jk:=[]) (s:=fun i=>d (o+i)) rfl rfl rfl rfl z5 (by decide) rfl rfl hl (by rw[List.append_nil];exact .refl _) C M aa hex rfl ?_
     intro v' V Y I al y
     rw[Nat.zero_add] at I;obtain⟨W,O,rfl⟩:=I.form;refine go ?_;refine af ?_;rw[List.append_nil] at y;exact ag [10,11,12] (post:=(q,az x s)::(V++Y)) ⟨_,V,Y,rfl,I.congr (fun i _=>by unfold wL;rw[ah (Nat.not_lt_zero _),Nat.sub_zero]),y,rfl⟩
   ·rw[<- r,ah aa];refine go ?_;refine ac rfl (fun hb=>?_) (fun hb=>?_)
    ·rw[ai aa];refine go ?_;refine ae (c_ S q x s _ _) ?_
     rintro v m ⟨⟨b',rfl⟩,rfl⟩;refine go ?_;refine af ?_;exact ag [10,11,12] (post:=(q,az x s)::sm) ⟨_,sm,rfl,.inl ⟨b',rfl⟩,Kp.refl _,rfl⟩
    ·rw[ah aa];obtain⟨b0,o0,rfl⟩:=J.some aa;have a4:=hd o
     refine go ?_;refine aH (σ:=J7) [2,14,15] (fun t=>[(4,.slice t.oa t.i t.cp),(16,ay t.i)]) (fun t=>(q,az x s)::(t.sm++t.jk)) (fun t=>t.i<=K/\nd (.slice t.oa t.i t.cp) t.i (fun _=>d o) t.sm/\Kp sm (t.sm++t.jk)) (fun t=>K-t.i) ⟨0,va,vc,sm,[]⟩ (by rw[List.append_nil];exact .refl _) ⟨Nat.zero_le _,hl.congr fun i hi=>absurd hi (Nat.not_lt_zero _),by rw[List.append_nil];exact Kp.refl _⟩ ?_
     rintro⟨i,wa,wc,H,F⟩ f ⟨k1,k2,k3⟩;dsimp only at k1 k2 k3 ⊢;refine go ?_;refine ac rfl (fun a9=>?_) (fun a8=>?_)
     ·refine go ?_;refine au (z:=.int .u8 0) (vs:=[.int .u8 (d o:Nat)]) rfl rfl z5 rfl rfl rfl rfl hex fun tb a7=>?_
      refine go ?_;refine uX (fm:=[(q,az x s)]) (sm:=H) (jk:=(tb,aj [.int .u8 (d o:Nat)] 5)::F) (s:=fun _=>d o) (src:=fun j=>(aj [.int .u8 (d o:Nat)] 5).g (0+j)) (k:=1) rfl rfl rfl rfl z5 (by decide) rfl rfl k2
       ((List.Perm.swap _ _ _).trans (List.Perm.cons _ List.perm_middle.symm)) (k_.of (B:=aj [.int .u8 (d o:Nat)] 5) (by simp) (by show 0+1*1<=1;decide)) (fun j hj=>by rw[show j=0 from aa];rfl) aa hex rfl ?_
      intro w' am ad U al y
      obtain⟨W,O,rfl⟩:=U.form;refine go ?_;refine⟨⟨i+1,W,O,am,ad⟩,by dsimp only;omega,⟨by dsimp only;omega,U.congr fun j hj=>?_,?_⟩,cF,.refl _⟩
      ·unfold wL;split<;>rfl
      ·exact(k3.trans (Kp.sub fun p hp=>(List.mem_append.1 hp).elim (fun h=>List.mem_append.2 (.inl h)) fun h=>List.mem_append.2 (.inr (List.mem_cons_of_mem _ h)))).trans y
     ·obtain rfl:i=K:=aa;refine go ?_;refine af ?_;exact ag [10,11,12] (post:=(q,az x s)::(H++F)) ⟨_,H,F,rfl,k2,k3,rfl⟩
theorem iS {d:Nat->Nat} {a b:Nat} (h:b<=25):dQ d a b=aq d (a-b) b:=by
 unfold dQ
 rw[Nat.min_eq_left aa]
structure x7 (hb:Nat) (ht:Nat->Nat):Prop where
 b1:1<=hb
 b11:hb<=11
 le:∀p,p<2^hb->ht p%256<=hb
 sym:∀p,p<2^hb->ht p/256<256
theorem yw (ht:Nat->Nat) (hb:Nat) (d:Nat->Nat) (a:Nat):∀i,gz ht hb d a i<=a
 | 0=>aZ _
 | i+1=>by have:=yw ht hb d a i;rw[gz];omega
theorem xh {ht:Nat->Nat} {hb:Nat} {d:Nat->Nat} {st a i:Nat} (h:dE ht hb d st a i) (k:8*st+hb<=gz ht hb d a i):dE ht hb d st a (i+1):=fun j l=>by
 by_cases g:j=i
 ·rw[g];exact k
 ·exact h j aa
def H0 (S:bN G) (j tb:Nat) (x:Int) (s:RS) (ht:Nat->Nat) (sm:ao) (K:Nat) (R:Option (Nat->Nat)) (r:Value) (m:ao):Prop :=
 match R with
 | some L=>∃i g h,r = .tuple #[i,.nilIface]/\nd i K L g/\Kp sm (g++h)/\m=(j,az x s)::(tb,bn .u16 2048 ht 157)::(g++h)
 | none=>∃e g,r = .tuple #[.slice none 0 0,e]/\dM S .z e/\Kp sm g/\m=(j,az x s)::(tb,bn .u16 2048 ht 157)::g
structure J8 where
 i:Nat
 oa:Option Addr
 cp:Nat
 sm:ao
 jk:ao
 k:Nat
 B:Nat
set_option maxHeartbeats 2000000 in
theorem Jp (S:bN G) (q tb:Nat) (x:Int) (s:RS) (da:Option Addr) (n F:Nat) (hd:∀i,d i<256) (hv:aU G da n F d) (hn:n<=2^20) (hb:Nat) (ht:Nat->Nat) (hH:x7 hb ht) (off cs K:Nat) (bv:2<=off) (bo:off+cs<=n) (hK:K<=131072) (va:Option Addr) (vc:Nat) (D:Nat->Nat) (sm:ao) (hl:nd (.slice va 0 vc) 0 D sm) :
  av Tryz.prog G 107 #[bf q,.slice da n F,ay off,ay cs,ay K,.slice va 0 vc] ((q,az x (s.wHuf (.slice (bi tb) 2048 2048) hb))::(tb,bn .u16 2048 ht 157)::sm) (H0 S q tb x (s.wHuf (.slice (bi tb) 2048 2048) hb) ht sm K (xf ht hb d off cs K)):=by
 refine bE Tryz.func107 fun c h0 hex=>?_
 have bt:=hH.b1
 have W:=hH.b11
 have a7:2^hb<=2^11:=Nat.pow_le_pow_right aa W
 have br:1<=2^hb:=Nat.one_le_two_pow
 obtain⟨b0,o0,rfl⟩:=hv.some aa
 refine go ?_
 refine ae (n6 S q x (s.wHuf (.slice (bi tb) 2048 2048) hb) _ n F hd hv hn (off+cs-1) (off-2) aa aa) ?_
 rintro v m ⟨rfl,r⟩
 unfold xf
 obtain⟨o,ho⟩:∃o,o=off+cs-1:=⟨_,rfl⟩
 rw[<- ho] at r ⊢
 by_cases hz:d o=0
 ·rw[ai hz] at r ⊢;obtain⟨e,rfl,⟨b',rfl⟩⟩:=r;refine go ?_;refine aC z191 rfl hex fun I a1=>?_
  refine go ?_;refine ak (s:=5) (vs:=[.pointer none,.slice none 0 0,.int .u32 0,.int .u32 0,.int .u32 0,.int .u32 0]) rfl rfl rfl rfl (cC rfl) .here (aZ 6) rfl hex ?_
  refine go ?_;exact af (cE [12,13] ((q,az x (s.wHuf (.slice (bi tb) 2048 2048) hb))::(tb,bn .u16 2048 ht 157)::sm) (junk:=[(I,_)]) ⟨_,sm,rfl,⟨b',rfl⟩,Kp.refl _,rfl⟩ (.of_perm (List.perm_append_comm (l₁:=[_]) (l₂:=_::_::sm))))
 ·rw[ah hz] at r ⊢;subst r;obtain⟨i1,i2,i3⟩:=iE.init (d:=d) hd hz
  obtain⟨st,a3⟩:∃st,st=off-2:=⟨_,rfl⟩
  rw[<- a3];refine go ?_;refine aC z191 rfl hex fun I a1=>?_
  refine go ?_;refine ak (s:=5) (vs:=[bf q,.slice (some ⟨b0,o0,none⟩) n F,.int .u32 (o:Nat),.int .u32 (st:Nat),.int .u32 (d o:Nat),.int .u32 (Nat.log2 (d o):Nat)]) rfl rfl rfl rfl (cC rfl) .here (aZ 6) rfl hex ?_
  obtain⟨a,ha⟩:∃a,a=dU d o:=⟨_,rfl⟩
  have a6:a=8*o+Nat.log2 (d o):=ha
  rw[<- a6] at i1 i2 i3;rw[<- ha];refine go ?_;refine aH (σ:=J8) [4,14,16,17,18] (fun t=>[(5,.slice t.oa t.i t.cp),(19,ay t.i)]) (fun t=>(I,nG q (some ⟨b0,o0,none⟩) n F ((gz ht hb d a t.i-t.k)/8) st t.B t.k)::(q,az x (s.wHuf (.slice (bi tb) 2048 2048) hb))::(tb,bn .u16 2048 ht 157)::(t.sm++t.jk))
   (fun t=>t.i<=K/\nd (.slice t.oa t.i t.cp) t.i (lW ht hb d a) t.sm/\Kp sm (t.sm++t.jk)/\iE d (gz ht hb d a t.i) t.k t.B/\t.k<=hb+7/\(gz ht hb d a t.i-t.k)/8<=n/\st<=(gz ht hb d a t.i-t.k)/8/\dE ht hb d st a t.i) (fun t=>K-t.i) ⟨0,va,vc,sm,[],a%8,d o⟩ ?_ ⟨Nat.zero_le _,hl.congr fun i hi=>absurd hi (Nat.not_lt_zero _),by rw[List.append_nil];exact Kp.refl _,i1,by dsimp only;omega,?_,?_,fun i hi=>absurd hi (Nat.not_lt_zero _)⟩ ?_
  ·rw[List.append_nil];refine .cons ?_ (.refl _)
   dsimp only;rw[show gz ht hb d a 0=a from rfl,i2,show(a-Nat.log2 (d o))/8=o from aa];exact aW rfl rfl rfl rfl
  ·show(a-a%8)/8<=n
   omega
  ·show st<=(a-a%8)/8
   omega
  rintro⟨i,oa,oc,p,l,k,B⟩ f ⟨k1,k2,k3,k4,k5,k6,k7,k8⟩;dsimp only at k1 k2 k3 k4 k5 k6 k7 k8 ⊢;obtain⟨y,U⟩:∃y,y=gz ht hb d a i:=⟨_,rfl⟩
  have C:gz ht hb d a (i+1)=y-fT ht hb d y%256:=by rw[gz,<- U]
  have H:lW ht hb d a i=fT ht hb d y/256:=by unfold lW;rw[<- U]
  rw[<- U] at k4 k6 k7 ⊢;have be:=k4.al
  have bu:=k4.le
  refine go ?_;refine ac rfl (fun bq=>?_) (fun bm=>?_)
  ·have a0:=yw ht hb d a i
   rw[<- U] at a0;have ba:Nat.log2 (d o)<8:=(Nat.log2_lt hz).2 (hd o)
   refine go ?_;refine ae (nk (G:=G) I q _ n F hd hv hn y k B st hb k4 aa k6 aa aa) ?_
   rintro v m (⟨h1,rfl,k',B',h2,h3,Y,h6,rfl⟩|⟨h1,rfl,of,B',k',h2,rfl⟩)<;>rw[List.cons_append,List.nil_append]
   ·have bb:=Y.al
    have a8:=Y.le
    have a9:=Y.lt
    have J:=vw Y h2 aa
    rw[iS aa] at J;have bd:B'/2^(k'-hb)<=B':=Nat.div_le_self _ _
    have V:B'/2^(k'-hb)&&&1*2^hb-1=aq d (y-hb) hb:=by rw[Nat.one_mul,Nat.and_two_pow_sub_one_eq_mod,J]
    have O:=aY d hb (y-hb)
    obtain⟨ix,M⟩:∃ix,ix=aq d (y-hb) hb:=⟨_,rfl⟩
    have u:fT ht hb d y=ht ix:=by unfold fT;rw[<- M]
    rw[<- M] at V O;have e1:=hH.le ix O
    have e2:=hH.sym ix O
    obtain⟨e,he⟩:∃e,e=ht ix:=⟨_,rfl⟩
    rw[<- he] at u e1 e2;rw[u] at C H;refine go ?_;rw[V];refine go ?_;rw[show ht (0+ix)=e by rw[Nat.zero_add,he]]
    refine go ?_;rw[show e/2^8=e/256 from rfl];refine go ?_;refine au (z:=.int .u8 0) (vs:=[.int .u8 ((e/256%256:Nat):Int)]) rfl rfl z5 rfl rfl rfl rfl hex fun ub bc=>?_
    refine go ?_;refine uX (fm:=[(I,nG q (some ⟨b0,o0,none⟩) n F ((y-k')/8) st B' k'),(q,az x (s.wHuf (.slice (bi tb) 2048 2048) hb)),(tb,bn .u16 2048 ht 157)]) (sm:=p) (jk:=(ub,aj [.int .u8 ((e/256%256:Nat):Int)] 5)::l) (s:=fun _=>e/256) (src:=fun j=>(aj [.int .u8 ((e/256%256:Nat):Int)] 5).g (0+j)) (k:=1) rfl rfl rfl rfl z5 (by decide) rfl rfl k2
     (pU _ [_,_,_] p l) (k_.of (B:=aj [.int .u8 ((e/256%256:Nat):Int)] 5) (by simp) (by show 0+1*1<=1;decide)) (fun j hj=>by rw[show j=0 from aa];show Value.int .u8 ((e/256%256:Nat):Int)=_;rw[Nat.mod_eq_of_lt e2]) aa hex rfl ?_
    ·intro w' a5 a2 ad bs aw
     obtain⟨a4,ax,rfl⟩:=ad.form;refine go ?_;refine⟨⟨i+1,a4,ax,a5,a2,k'-e%256,B'⟩,by dsimp only;omega,⟨by dsimp only;omega,ad.congr fun j hj=>?_,?_,?_,?_,?_,?_,?_⟩,cF,?_⟩
     ·unfold wL;by_cases ab:j<i
      ·rw[ai ab]
      ·rw[ah ab,show j=i from aa,H]
     ·exact k3.more.trans aw
     ·dsimp only;rw[C];exact Y.less aa
     ·dsimp only;omega
     ·dsimp only;rw[C];omega
     ·dsimp only;rw[C];omega
     ·exact xh k8 (by rw[<- U];omega)
     ·dsimp only;rw[C];refine .cons ((FA q _ n F _ _ _ _ _).trans ?_) (.refl _)
      rw[show y-e%256-(k'-e%256)=y-k' from aa]
   ·have am:¬dE ht hb d st a K:=fun h=>by
     have:=h i aa
     rw[<- U] at this;exact h1 (.inr this)
    rw[ah am];refine go ?_;refine ae (iQ S I q x (s.wHuf (.slice (bi tb) 2048 2048) hb) _ n F of st _ _ h2 _) ?_
    rintro v m ⟨⟨b',rfl⟩,rfl⟩;refine go ?_;exact af (cE [12,13] ((q,az x (s.wHuf (.slice (bi tb) 2048 2048) hb))::(tb,bn .u16 2048 ht 157)::(p++l)) (junk:=[(I,_)]) ⟨_,p++l,rfl,⟨b',rfl⟩,k3,rfl⟩ (.of_perm (List.perm_append_comm (l₁:=[_]) (l₂:=_::_::(p++l)))))
  ·obtain rfl:i=K:=aa;rw[ai k8];refine go ?_;exact af (cE [12,13] ((q,az x (s.wHuf (.slice (bi tb) 2048 2048) hb))::(tb,bn .u16 2048 ht 157)::(p++l)) (junk:=[(I,_)]) ⟨_,p,l,rfl,k2,k3,rfl⟩ (.of_perm (List.perm_append_comm (l₁:=[_]) (l₂:=_::_::(p++l)))))
theorem yx {m:ao} {j:Option Addr} {n g:Nat} {x:Nat->Nat} (l:aU (m++G) j n g x) (hb:∀i,x i<256) (h:2<=n):aO Tryz.prog G 82 #[.slice j n g] m (.int .u16 (v5 x)):=by
 obtain⟨p,q⟩:=l
 rcases q with⟨_,h0,_⟩|⟨b,o,B,rfl,k,hf,hg⟩
 ·omega
 ·exact CX G m b o n g B x ⟨k,by have:=hf aa;omega,fun i hi=>hg i aa,hb⟩ h
structure xj (d:Nat->Nat) (n:Nat) (ht:Nat->Nat) (hb st a i k B:Nat):Prop where
 ok:iE d (gz ht hb d a i) k B
 k7:k<=hb+7
 on:(gz ht hb d a i-k)/8<=n
 ge:st<=(gz ht hb d a i-k)/8
 all:dE ht hb d st a i
def x8 (h:Nat) (g:Option Addr) (n j:Nat) (d:Nat->Nat) (ht:Nat->Nat) (hb st a i k B:Nat):bk:=nG h g n j ((gz ht hb d a i-k)/8) st B k
theorem xj.init {n o st hb:Nat} {ht:Nat->Nat} (hd:∀i,d i<256) (k:d o≠0) (l:o<n) (h:st<=o):xj d n ht hb st (dU d o) 0 (dU d o%8) (d o):=by
 obtain⟨g,i2,j⟩:=iE.init (d:=d) hd k
 have e:dU d o=8*o+Nat.log2 (d o):=rfl
 rw[<- e] at g i2 j
 refine⟨g,aa,?_,?_,fun i hi=>absurd hi (Nat.not_lt_zero _)⟩
 ·show(dU d o-dU d o%8)/8<=n
  omega
 ·show st<=(dU d o-dU d o%8)/8
  omega
theorem pg {h n j o st hb:Nat} {g:Option Addr} {ht:Nat->Nat} (hd:∀i,d i<256) (p:d o≠0):(nG h g n j o st (d o) (Nat.log2 (d o)))=x8 h g n j d ht hb st (dU d o) 0 (dU d o%8) (d o):=by
 obtain⟨k,i2,l⟩:=iE.init (d:=d) hd p
 have e:dU d o=8*o+Nat.log2 (d o):=rfl
 rw[<- e] at k i2 l
 unfold x8
 rw[show gz ht hb d (dU d o) 0=dU d o from rfl,i2,show(dU d o-Nat.log2 (d o))/8=o from aa]
theorem xj.next {n hb st a i k B:Nat} {ht:Nat->Nat} (h:xj d n ht hb st a i k B) (r:x7 hb ht) (y:hb<=k) (p:8*st+hb<=gz ht hb d a i):xj d n ht hb st a (i+1) (k-fT ht hb d (gz ht hb d a i)%256) B:=by
 have t:=r.le _ (aY d hb (gz ht hb d a i-hb))
 have q:fT ht hb d (gz ht hb d a i)=ht (aq d (gz ht hb d a i-hb) hb):=rfl
 have g:gz ht hb d a (i+1)=gz ht hb d a i-fT ht hb d (gz ht hb d a i)%256:=rfl
 rw[<- q] at t
 have u:=h.ok.le
 have z:=h.k7
 have j:=h.on
 have l:=h.ge
 refine⟨by rw[g];exact h.ok.less aa,aa,by rw[g];omega,by rw[g];omega,xh h.all p⟩
theorem pi {j n l hb st a i k B:Nat} {g:Option Addr} {ht:Nat->Nat} (h:xj d n ht hb st a i k B) (r:x7 hb ht) (y:hb<=k):((x8 j g n l d ht hb st a i k B).st 5 (.int .u32 ((k-fT ht hb d (gz ht hb d a i)%256:Nat):Int))).obj=(x8 j g n l d ht hb st a (i+1) (k-fT ht hb d (gz ht hb d a i)%256) B).obj:=by
 have p:=r.le _ (aY d hb (gz ht hb d a i-hb))
 have u:fT ht hb d (gz ht hb d a i)=ht (aq d (gz ht hb d a i-hb) hb):=rfl
 have q:gz ht hb d a (i+1)=gz ht hb d a i-fT ht hb d (gz ht hb d a i)%256:=rfl
 rw[<- u] at p
 have t:=h.ok.le
 refine(FA j g n l _ _ _ _ _).trans ?_
 unfold x8
 rw[q,show gz ht hb d a i-fT ht hb d (gz ht hb d a i)%256-(k-fT ht hb d (gz ht hb d a i)%256)=gz ht hb d a i-k from aa]
theorem FF (S:bN G) (j g tb c1 c2 c3:Nat) (x:Int) (s:RS) (K:Option Addr) (n r:Nat) (hd:∀i,d i<256) (hv:aU G K n r d) (hn:n<=2^20) (hb:Nat) (ht:Nat->Nat) (hH:x7 hb ht) (st a i k B:Nat) (aw:st<=n) (ha:a<=8*n+7) (hI:xj d n ht hb st a i k B) :
  av Tryz.prog G 116 #[bf j,bf c1,bf c2,bf c3]
   [(j,x8 g K n r d ht hb st a i k B),(g,az x s),(c1,aj [.int .u32 (hb:Nat)] 64),(c2,aj [.int .u32 ((2^hb-1:Nat):Int)] 64),(c3,aj [.slice (bi tb) 2048 2048] 75),(tb,bn .u16 2048 ht 157)] (fun v m =>
   (8*st+hb<=gz ht hb d a i/\v = .tuple #[.int .u16 (fT ht hb d (gz ht hb d a i):Nat),.nilIface]/\∃k' B',hb<=k'/\xj d n ht hb st a i k' B' /\
    m=[(j,x8 g K n r d ht hb st a i k' B'),(g,az x s),(c1,aj [.int .u32 (hb:Nat)] 64),(c2,aj [.int .u32 ((2^hb-1:Nat):Int)] 64),(c3,aj [.slice (bi tb) 2048 2048] 75),(tb,bn .u16 2048 ht 157)]) \/
   (¬dE ht hb d st a (i+1)/\(∃e,v = .tuple #[.int .u16 0,e]/\dM S .z e)/\∃B',m=[(j,B'),(g,az x s),(c1,aj [.int .u32 (hb:Nat)] 64),(c2,aj [.int .u32 ((2^hb-1:Nat):Int)] 64),(c3,aj [.slice (bi tb) 2048 2048] 75),(tb,bn .u16 2048 ht 157)])):=by
 refine bE Tryz.func116 fun c h0 hex=>?_
 have a0:=hH.b1
 have C:=hH.b11
 have Y:2^hb<=2^11:=Nat.pow_le_pow_right aa C
 have am:1<=2^hb:=Nat.one_le_two_pow
 obtain⟨y,H⟩:∃y,y=gz ht hb d a i:=⟨_,rfl⟩
 have O:=yw ht hb d a i
 obtain⟨J,I2,V,I4,I5⟩:=hI
 unfold x8
 rw[<- H] at J V I4 O ⊢
 have a1:=J.al
 have a2:=J.le
 refine go ?_
 refine ae (nk (G:=G) j g _ n r hd hv hn y k B st hb J aa V aa aa) ?_
 rintro v m (⟨W,rfl,k',B',I,h3,F,h6,rfl⟩|⟨W,rfl,of,B',k',I,rfl⟩)<;>rw[List.cons_append,List.nil_append]
 ·have ad:=F.al
  have ab:=F.le
  have U:=F.lt
  have l:=vw F I aa
  rw[iS aa] at l;have ax:B'/2^(k'-hb)<=B':=Nat.div_le_self _ _
  have u:B'/2^(k'-hb)&&&2^hb-1=aq d (y-hb) hb:=by rw[Nat.and_two_pow_sub_one_eq_mod,l]
  have M:=aY d hb (y-hb)
  obtain⟨ix,p⟩:∃ix,ix=aq d (y-hb) hb:=⟨_,rfl⟩
  have q:fT ht hb d y=ht ix:=by unfold fT;rw[<- p]
  rw[<- p] at u M;refine go ?_;rw[u];refine go ?_;rw[show ht (0+ix)=fT ht hb d y by rw[Nat.zero_add,q]]
  refine af ?_;refine ag [5,6] (post:=[(j,nG g K n r ((y-k')/8) st B' k'),(g,az x s),(c1,aj [.int .u32 (hb:Nat)] 64),(c2,aj [.int .u32 ((2^hb-1:Nat):Int)] 64),(c3,aj [.slice (bi tb) 2048 2048] 75),(tb,bn .u16 2048 ht 157)]) (.inl ⟨aa,rfl,k',B',I,⟨by rw[<- H];exact F,aa,by rw[<- H];exact h6,by rw[<- H];omega,I5⟩,rfl⟩)
 ·refine go ?_;refine ae (iQ S j g x s _ n r of st _ _ I _) ?_
  rintro v m ⟨⟨b',rfl⟩,rfl⟩;refine go ?_;refine af ?_;refine ag [5,6] (post:=[(j,_),(g,az x s),(c1,aj [.int .u32 (hb:Nat)] 64),(c2,aj [.int .u32 ((2^hb-1:Nat):Int)] 64),(c3,aj [.slice (bi tb) 2048 2048] 75),(tb,bn .u16 2048 ht 157)]) (.inr ⟨fun h=>?_,⟨_,rfl,b',rfl⟩,_,rfl⟩)
  have:=h i (Nat.lt_succ_self _)
  rw[<- H] at this;exact W (.inr this)
end Go.Proofs.YtogmacnlpclgkaaGreatDoor
