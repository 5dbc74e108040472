/- Texts 35. -/
import Derived.Test.YtogmacnlpclgkaaGreatDoorX33
import Derived.Test.YtogmacnlpclgkaaGreatDoorX34
set_option linter.all false
namespace Go.Proofs.YtogmacnlpclgkaaGreatDoor
open Go Go.Eng Go.Pz
set_option maxRecDepth 20000
variable {dat d:Nat->Nat} {N:Nat}
theorem Ve.bind_ok {α β:Type} (a:α) (f:α->Ve β):(Ve.ok a).bind f=f a:=rfl
def AD (s:SS) (p:PS CE) (most size:Nat) (r:Ve SS) (q:PS CE×Bool):Prop :=
 match r with
 | .op=>True
 | .wr=>q.2=false
 | .ok g=>q.2=true/\yW q.1.e g/\En s g q.1.S q.1.bl most/\q.1={ p with pos:=p.pos+size,S:=q.1.S,bl:=q.1.bl,e:=q.1.e }
def vU (x:Nat):Nat:=if x=255 then 3 else if 128<=x then 2 else 1
def JD (d:Nat->Nat) (o h:Nat):Nat:=if h=3 then d (o+1)+d (o+2)*256+32512 else if h=2 then(d o-128)*256+d (o+1) else d o
theorem IJ {n o:Nat} (hd:∀i,d i<256) (h0:o<n):nK d n o=if n<o+vU (d o) then none else some (JD d o (vU (d o)),o+vU (d o)):=by
 have k:=hd o
 unfold nK vU JD
 rw[ah aa]
 by_cases h:d o<128
 ·rw[ai h,ah (show ¬d o=255 from aa),ah (show ¬128<=d o from aa),ah aa,ah (by decide),ah (by decide)]
 rw[ah h]
 by_cases j:d o<255
 ·rw[ai j,ah (show ¬d o=255 from aa),ai (show 128<=d o from aa),ah (show ¬2=3 by decide),ai rfl]
  by_cases g:n<=o+1
  ·rw[ai g,ai aa]
  ·rw[ah g,ah aa]
 rw[ah j,ai (show d o=255 from aa),ai rfl]
 by_cases g:n<=o+2
 ·rw[ai g,ai aa]
 ·rw[ah g,ah aa]
def Gq (e:CE) (n:Nat) (r:Ve (dV×dV×dV×Nat)) (q:CE×Option Nat):Prop :=
 match r with
 | .op=>True
 | .wr=>q.2=none
 | .ok (F0,F1,F2,p)=>p<=n/\∃T0 T1 T2,q=({ e with t0:=some T0,t1:=some T1,t2:=some T2 },some p)/\fM 0 T0 F0/\fM 1 T1 F1/\fM 2 T2 F2
def xK (s:SS) (d:Nat->Nat) (n p0 md:Nat):Ve (dV×dV×dV×Nat) :=
 (fp s.t0 0 (md/64%4) (aX d p0) (n-p0)).bind fun g =>
 (fp s.t1 1 (md/16%4) (aX d (p0+g.2)) (n-(p0+g.2))).bind fun h =>
 (fp s.t2 2 (md/4%4) (aX d (p0+g.2+h.2)) (n-(p0+g.2+h.2))).bind fun i =>
 .ok (g.1,h.1,i.1,p0+g.2+h.2+i.2)
theorem Ep {s:SS} {e:CE} (h0:tG 0 e.t0 s.t0) (l:tG 1 e.t1 s.t1) (i:tG 2 e.t2 s.t2) {n p0 md:Nat} (h:p0<=n):Gq e n (xK s d n p0 md) (ig e d n p0 md):=by
 unfold xK ig
 have a0:=vT (d:=d) (n:=n) (p:=p0) (mode:=md/64%4) (by decide) aa h0 h
 generalize fp s.t0 0 (md/64%4) (aX d p0) (n-p0)=r at a0 ⊢
 generalize ep e.t0 0 (md/64%4) d n p0=q at a0 ⊢
 cases r with
 | op=>trivial
 | wr=>obtain rfl:q=none:=a0;rfl
 | ok Fk =>
 obtain⟨F0,k0⟩:=Fk
 obtain⟨a1,T0,rfl,R0⟩:=a0
 dsimp only[Ve.bind]
 have a0:=vT (d:=d) (n:=n) (p:=p0+k0) (mode:=md/16%4) (by decide) aa l a1
 generalize fp s.t1 1 (md/16%4) (aX d (p0+k0)) (n-(p0+k0))=r at a0 ⊢
 generalize ep e.t1 1 (md/16%4) d n (p0+k0)=q at a0 ⊢
 cases r with
 | op=>trivial
 | wr=>obtain rfl:q=none:=a0;rfl
 | ok Fk =>
 obtain⟨F1,g⟩:=Fk
 obtain⟨a1,T1,rfl,j⟩:=a0
 dsimp only[Ve.bind]
 have a0:=vT (d:=d) (n:=n) (p:=p0+k0+g) (mode:=md/4%4) (by decide) aa i a1
 generalize fp s.t2 2 (md/4%4) (aX d (p0+k0+g)) (n-(p0+k0+g))=r at a0 ⊢
 generalize ep e.t2 2 (md/4%4) d n (p0+k0+g)=q at a0 ⊢
 cases r with
 | op=>trivial
 | wr=>obtain rfl:q=none:=a0;rfl
 | ok Fk =>
 obtain⟨F2,t⟩:=Fk
 obtain⟨a1,T2,rfl,k⟩:=a0
 exact⟨a1,T0,T1,T2,rfl,R0,j,k⟩
theorem Er (hd:∀i,dat i<256) {win most size:Nat} {s:SS} {p:PS CE} (K:yW p.e s) (W:yV win s.out s.ol p.L p.wl) (A:win<=33554432) (t:most<=131072) (hN:p.pos+size<=N) :
  AD s p most size (jS s win most (aX dat p.pos) size) (bG dat N p size):=by
 have C:∀i,aX dat p.pos i<256:=fun i=>hd _
 unfold jS bG
 rw[Nat.min_eq_left (show size<=N-p.pos from aa)]
 dsimp only
 rw[ah (Nat.lt_irrefl _)]
 rw[show(fun i=>dat (p.pos+i))=aX dat p.pos from rfl]
 have hl:=Em C K.tree size
 have y:=fun o K LT h=>vC (e:=p.e) (d:=aX dat p.pos) (n:=size) (o:=o) (K:=K) (LT:=LT) h
 obtain⟨O,V,F,H,m4,U⟩:=qc p.e (aX dat p.pos) size
 generalize aX dat p.pos=d at *
 generalize lX s.tree d size=r at hl ⊢
 generalize lits p.e d size=q at hl y O V F H m4 U ⊢
 obtain⟨k,q2⟩:=q
 dsimp only at hl y O V F H m4 U ⊢
 cases r with
 | op=>trivial
 | wr=>obtain rfl:q2=none:=hl;rfl
 | ok R =>
 obtain⟨⟨tl,TX,o⟩,M⟩:=R
 obtain⟨LT,h1,B,u⟩:=hl
 dsimp only at h1 u
 subst h1
 obtain⟨ho,al⟩:=y _ _ _ rfl
 rw[Ve.bind_ok]
 dsimp only
 rw[show(if d o=255 then 3 else if 128<=d o then 2 else 1)=vU (d o) from rfl]
 rw[show(if vU (d o)=3 then d (o+1)+d (o+2)*256+32512 else if vU (d o)=2 then(d o-128)*256+d (o+1) else d o)=JD d o (vU (d o)) from rfl]
 unfold cU
 by_cases g1:size<=o
 ·rw[ai g1];unfold nK;rw[ai g1]
  rfl
 rw[ah g1,IJ (n:=size) (o:=o) C aa]
 by_cases I:size<o+vU (d o)
 ·rw[ai I,ai I];rfl
 rw[ah I,ah I]
 dsimp only
 by_cases l:JD d o (vU (d o))=0
 ·rw[ai l];by_cases g4:1<vU (d o)\/o+vU (d o)<size\/most<tl
  ·rw[ai g4];trivial
  rw[ah g4];have g5:vU (d o)=1:=by
   have:1<=vU (d o):=by unfold vU;split;decide;split<;>decide
   omega
  rw[g5] at l;have g6:d o=0:=l
  rw[ai g6];dsimp only;rw[ai rfl,ah aa];refine⟨rfl,⟨u,?_,?_,?_,?_,?_,?_,K.pos,K.lim⟩,⟨rfl,by show tl<=most;omega,fun i hi=>?_,fun i hi=>?_⟩,rfl⟩
  ·show tG 0 k.t0 s.t0;rw[O];exact K.t0
  ·show tG 1 k.t1 s.t1;rw[V];exact K.t1
  ·show tG 2 k.t2 s.t2;rw[F];exact K.t2
  ·show k.r1=s.o1;rw[H];exact K.r1
  ·show k.r2=s.o2;rw[m4];exact K.r2
  ·show k.r3=s.o3;rw[U];exact K.r3
  ·have hi:i<tl:=hi
   show fj p.S 0 tl LT i=fj s.out s.ol tl TX (s.ol+i)
   rw[dr (Nat.zero_le _) aa,dr aa aa,B _ aa]
   congr 1;omega
  ·show fj s.out s.ol tl TX i=s.out i
   exact co (.inl hi)
 rw[ah l]
 have g6:d o≠0:=by
  intro h;rw[h] at l;exact l h
 rw[ah g6]
 by_cases J:size<=o+vU (d o)
 ·rw[ai J,ai J];rfl
 rw[ah J,ah J]
 by_cases g8:d (o+vU (d o))%4≠0
 ·rw[ai g8];trivial
 rw[ah g8,ah g8]
 generalize JD d o (vU (d o))=cnt at *
 generalize o+vU (d o)=o2 at *
 have ht:=Ep (d:=d) (n:=size) (p0:=o2+1) (md:=d o2) (s:=s) (e:=k) (by rw[O];exact K.t0) (by rw[V];exact K.t1) (by rw[F];exact K.t2) aa
 have ab:∀f:dV->dV->dV->Nat->Ve SS,((fp s.t0 0 (d o2/64%4) (aX d (o2+1)) (size-(o2+1))).bind fun g =>
   (fp s.t1 1 (d o2/16%4) (aX d (o2+1+g.2)) (size-(o2+1+g.2))).bind fun j =>
   (fp s.t2 2 (d o2/4%4) (aX d (o2+1+g.2+j.2)) (size-(o2+1+g.2+j.2))).bind fun z=>f g.1 j.1 z.1 (o2+1+g.2+j.2+z.2)) =
   (xK s d size (o2+1) (d o2)).bind fun r=>f r.1 r.2.1 r.2.2.1 r.2.2.2:=by
  intro f;unfold xK
  cases fp s.t0 0 (d o2/64%4) (aX d (o2+1)) (size-(o2+1)) with
  | op=>rfl
  | wr=>rfl
  | ok g =>
   dsimp only[Ve.bind]
   cases fp s.t1 1 (d o2/16%4) (aX d (o2+1+g.2)) (size-(o2+1+g.2)) with
   | op=>rfl
   | wr=>rfl
   | ok j =>
    dsimp only[Ve.bind]
    cases fp s.t2 2 (d o2/4%4) (aX d (o2+1+g.2+j.2)) (size-(o2+1+g.2+j.2)) with
    | op=>rfl
    | wr=>rfl
    | ok z=>rfl
 show AD s p most size ((fp s.t0 0 (d o2/64%4) (aX d (o2+1)) (size-(o2+1))).bind fun g =>
   (fp s.t1 1 (d o2/16%4) (aX d (o2+1+g.2)) (size-(o2+1+g.2))).bind fun j =>
   (fp s.t2 2 (d o2/4%4) (aX d (o2+1+g.2+j.2)) (size-(o2+1+g.2+j.2))).bind fun z=>(fun F0 F1 F2 p3=>iw { s with tree:=M } F0 F1 F2 win most (aX d p3) (size-p3) cnt TX tl) g.1 j.1 z.1 (o2+1+g.2+j.2+z.2)) _
 rw[ab fun F0 F1 F2 p3=>iw { s with tree:=M } F0 F1 F2 win most (aX d p3) (size-p3) cnt TX tl]
 generalize xK s d size (o2+1) (d o2)=r at ht ⊢
 generalize ig k d size (o2+1) (d o2)=q at ht ⊢
 cases r with
 | op=>trivial
 | wr =>
  obtain⟨e2,q2⟩:=q;obtain rfl:q2=none:=ht
  rfl
 | ok R =>
 obtain⟨F0,F1,F2,p3⟩:=R
 obtain⟨ad,T0,T1,T2,rfl,R0,R1,R2⟩:=ht
 dsimp only[Ve.bind,Option.map]
 rw[ah l]
 have hs:=Eo (d:=d) (s:={ s with tree:=M }) (e:={ k with t0:=some T0,t1:=some T1,t2:=some T2 }) (n:=size) (cnt:=cnt) (S0:=p.S) rfl rfl rfl R0 R1 R2 u (H.trans K.r1) (m4.trans K.r2) (U.trans K.r3) K.pos K.lim W A t B ad
 generalize iw { s with tree:=M } F0 F1 F2 win most (aX d p3) (size-p3) cnt TX tl=r at hs ⊢
 generalize eu { k with t0:=some T0,t1:=some T1,t2:=some T2 } d size p3 cnt p.L p.wl LT tl p.S=q at hs ⊢
 cases r with
 | op=>trivial
 | wr=>exact hs
 | ok s' =>
  obtain⟨s1,s2,Y⟩:=hs;exact⟨s1,s2,⟨Y.ol,Y.le,Y.is,Y.old⟩,rfl⟩
end Go.Proofs.YtogmacnlpclgkaaGreatDoor
namespace Go.Proofs.YtogmacnlpclgkaaGreatDoor
open Go Go.Eng Go.Pz
set_option maxRecDepth 20000
def txt (S:Nat->Nat) (a b:Nat):List Nat:=(List.range (b-a)).map fun i=>S (a+i)
theorem de (S:Nat->Nat) (a b:Nat):(txt S a b).length=b-a:=by simp[txt]
theorem fD {S:Nat->Nat} {a b i:Nat} (h:i<b-a):(txt S a b)[i]? = some (S (a+i)):=by
 unfold txt
 rw[List.getElem?_map,List.getElem?_range h];rfl
theorem lN (S:Nat->Nat) (a:Nat):txt S a a=[]:=by unfold txt;rw[Nat.sub_self];rfl
theorem vV {S:Nat->Nat} {a b:Nat} {l:List Nat} (h:l.length=b-a) (g:∀i,i<b-a->l[i]? = some (S (a+i))):l=txt S a b:=by
 apply List.ext_getElem?
 intro i
 by_cases hi:i<b-a
 ·rw[g i hi,fD hi]
 ·rw[List.getElem?_eq_none aa,List.getElem?_eq_none (by rw[de];omega)]
theorem kX {S S':Nat->Nat} {a a' b b':Nat} (h:b-a=b'-a') (g:∀i,i<b-a->S (a+i)=S' (a'+i)):txt S a b=txt S' a' b' :=
 vV (by rw[de,h]) fun i hi=>by rw[fD aa,g i aa]
theorem vW (S:Nat->Nat) {a b c:Nat} (j:a<=b) (g:b<=c):txt S a b++txt S b c=txt S a c :=
 vV (by rw[List.length_append,de,de];omega) fun i hi=>by
  by_cases h:i<b-a
  ·rw[List.getElem?_append_left (by rw[de];exact h),fD h]
  ·rw[List.getElem?_append_right (by rw[de];omega),de,fD aa]
   congr 2;omega
theorem xL (S:Nat->Nat) {a b k:Nat} (h:k<=b-a):(txt S a b).drop k=txt S (a+k) b :=
 vV (by rw[List.length_drop,de];omega) fun i hi=>by
  rw[List.getElem?_drop,fD aa];congr 2;omega
section
variable {E:Type} (dat:Nat->Nat) (N:Nat) (ini:E->E) (cmp:PS E->Nat->PS E×Bool)
inductive Rem:PS E->List Nat->Nat->Prop
 | stop (p:PS E) (h:(bh dat N ini cmp (N+1) p).2≠0):Rem p [] (bh dat N ini cmp (N+1) p).2
 | more (p:PS E) (T:List Nat) (v:Nat) (h:(bh dat N ini cmp (N+1) p).2=0)
   (h1:Rem { (bh dat N ini cmp (N+1) p).1 with off:=(bh dat N ini cmp (N+1) p).1.bl } T v) :
   Rem p (txt (bh dat N ini cmp (N+1) p).1.S (bh dat N ini cmp (N+1) p).1.off (bh dat N ini cmp (N+1) p).1.bl++T) v
end
section
variable {E:Type} {dat:Nat->Nat} {N:Nat} {ini:E->E} {cmp:PS E->Nat->PS E×Bool}
theorem Rem.need {p g:PS E} {T:List Nat} {v:Nat} (e:bh dat N ini cmp (N+1) p=bh dat N ini cmp (N+1) g) (h:Rem dat N ini cmp g T v):Rem dat N ini cmp p T v:=by
 cases h with
 | stop _ h=>rw[<- e] at h ⊢;exact .stop p h
 | more _ T v h i =>
  have:=Rem.more (dat:=dat) (N:=N) (ini:=ini) (cmp:=cmp) p T v (by rw[e];exact h) (by rw[e];exact i)
  rwa[e] at this
theorem Rem.code {p:PS E} {T:List Nat} {v:Nat} (h:Rem dat N ini cmp p T v):v≠0:=by
 induction h with
 | stop _ h=>exact h
 | more _ _ _ _ _ g=>exact g
theorem s9 {p:PS E} {T:List Nat} {v:Nat} (h0:p.off<=p.bl) (h:Rem dat N ini cmp { p with off:=p.bl } T v):Rem dat N ini cmp p (txt p.S p.off p.bl++T) v:=by
 by_cases g:p.off<p.bl
 ·have e:=mD dat N ini cmp p g
  have:=Rem.more (dat:=dat) (N:=N) (ini:=ini) (cmp:=cmp) p T v (by rw[e]) (by rw[e];exact h)
  rwa[e] at this
 ·obtain⟨pos,i,sum,one,j,l,S,bl,off,L,wl,k,q,r,e⟩:=p;dsimp only at h0 g h ⊢;obtain rfl:off=bl:=aa;rw[lN,List.nil_append];exact h
theorem Es (i:gP N cmp) {p:PS E} {T:List Nat} {v:Nat} (h0:¬p.off<p.bl) (g:(bB dat N ini cmp p).2=0) (h:Rem dat N ini cmp { (bB dat N ini cmp p).1 with off:=(bB dat N ini cmp p).1.bl } T v) :
  Rem dat N ini cmp p (txt (bB dat N ini cmp p).1.S 0 (bB dat N ini cmp p).1.bl++T) v :=
 Rem.need (mC dat N ini cmp i p h0 g) (s9 (p:={ (bB dat N ini cmp p).1 with off:=0 }) (Nat.zero_le _) h)
theorem s_ {p:PS E} (h0:¬p.off<p.bl) (g:(bB dat N ini cmp p).2≠0):Rem dat N ini cmp p [] (bB dat N ini cmp p).2:=by
 have e:=gQ dat N ini cmp p h0 g
 have:=Rem.stop (dat:=dat) (N:=N) (ini:=ini) (cmp:=cmp) p (by rw[e];exact g)
 rwa[e] at this
theorem td (l:gP N cmp) {p:PS E} {T:List Nat} {v:Nat} (h:Rem dat N ini cmp p T v) (n:Nat) :
  ((a_ dat N ini cmp n p).2.2=0/\(a_ dat N ini cmp n p).2.1<=n/\(a_ dat N ini cmp n p).2.1<=T.length/\(0<n->0<(a_ dat N ini cmp n p).2.1)/\(∀i,i<(a_ dat N ini cmp n p).2.1->T[i]? = some (iX dat N ini cmp p i))/\T≠[] /\
   Rem dat N ini cmp (a_ dat N ini cmp n p).1 (T.drop (a_ dat N ini cmp n p).2.1) v) \/
  ((a_ dat N ini cmp n p).2.2=v/\v≠0/\T=[]/\(a_ dat N ini cmp n p).2.1=0/\(a_ dat N ini cmp n p).1=(bh dat N ini cmp (N+1) p).1):=by
 unfold a_ iX
 cases h with
 | stop _ h =>
  right
  rw[ah h];exact⟨rfl,h,rfl,rfl,rfl⟩
 | more _ T v h j =>
  left
  rw[ai h];have g:=(kj (dat:=dat) (ini:=ini) l (N+1) p h).2
  generalize bh dat N ini cmp (N+1) p=r at h j g ⊢;obtain⟨q,c⟩:=r;dsimp only at h j g ⊢;refine⟨rfl,Nat.min_le_left _ _,by rw[List.length_append,de];omega,fun _=>aa,fun i hi=>?_,fun k=>?_,?_⟩
  ·rw[List.getElem?_append_left (by rw[de];omega),fD aa]
  ·have:=congrArg List.length k
   rw[List.length_append,de] at this;simp at this
   omega
  ·rw[List.drop_append_of_le_length (by rw[de];omega),xL _ aa]
   exact s9 (p:={ q with off:=q.off+min n (q.bl-q.off) }) (by dsimp only;omega) j
theorem Et (t:gP N cmp) {p:PS E} {T:List Nat} {v:Nat} (h:Rem dat N ini cmp p T v) :
  ((dS dat N ini cmp p).2.1=0/\(∃T',T=(dS dat N ini cmp p).2.2::T'/\Rem dat N ini cmp (dS dat N ini cmp p).1 T' v)) \/
  ((dS dat N ini cmp p).2.1=v/\v≠0/\T=[]/\(dS dat N ini cmp p).1=(bh dat N ini cmp (N+1) p).1):=by
 unfold dS
 cases h with
 | stop _ h =>
  right
  rw[ah h];exact⟨rfl,h,rfl,rfl⟩
 | more _ T v h j =>
  left
  rw[ai h];have g:=(kj (dat:=dat) (ini:=ini) t (N+1) p h).2
  generalize bh dat N ini cmp (N+1) p=r at h j g ⊢;obtain⟨q,c⟩:=r;dsimp only at h j g ⊢;refine⟨rfl,txt q.S (q.off+1) q.bl++T,?_,s9 (p:={ q with off:=q.off+1 }) (by dsimp only;omega) j⟩
  rw[<- List.cons_append]
  congr 1
  have e:=xL q.S (a:=q.off) (b:=q.bl) (k:=1) aa
  rw[<- e];have hl:=de q.S q.off q.bl
  have h0:=fD (S:=q.S) (a:=q.off) (b:=q.bl) (i:=0) aa
  cases ht:txt q.S q.off q.bl with
  | nil=>rw[ht] at h0;cases h0
  | cons a l =>
   rw[ht] at h0;cases h0
   rfl
theorem vX (u:gP N cmp) (n:Nat) (A:0<n) {v:Nat}:∀(k:Nat) {p:PS E} {T:List Nat},T.length<=k->Rem dat N ini cmp p T v->∀(O:Nat->Nat) (g:Nat),
  ∃l,kK dat N ini cmp n p O g (l,g+T.length,decide (v=1))/\(∀i,i<g->l i=O i)/\∀i,i<T.length->T[i]? = some (l (g+i)):=by
 intro k
 induction k with
 | zero =>
  intro p T B h O g;obtain rfl:T=[]:=List.eq_nil_of_length_eq_zero aa;rcases td u h n with j|⟨j,r,_,_,_⟩
  ·exact absurd rfl j.2.2.2.2.2.1
  ·have:=kK.stop (dat:=dat) (N:=N) (ini:=ini) (cmp:=cmp) (n:=n) p O g (by rw[j];exact r)
   rw[j] at this;exact⟨O,this,fun _ _=>rfl,fun i hi=>absurd hi (Nat.not_lt_zero _)⟩
 | succ k F =>
  intro p T B h O g;rcases td u h n with⟨a1,I,J,a4,C,H,z⟩|⟨j,r,rfl,_,_⟩
  ·have a4:=a4 A
   obtain⟨l,y,t,b3⟩:=F (T:=T.drop (a_ dat N ini cmp n p).2.1) (by rw[List.length_drop];omega) z (cB O g (iX dat N ini cmp p)) (g+(a_ dat N ini cmp n p).2.1)
   refine⟨l,?_,fun i hi=>?_,fun i hi=>?_⟩
   ·have:=kK.step (dat:=dat) (N:=N) (ini:=ini) (cmp:=cmp) (n:=n) p O g _ a1 y
    rw[List.length_drop] at this;rwa[show g+(a_ dat N ini cmp n p).2.1+(T.length-(a_ dat N ini cmp n p).2.1)=g+T.length from aa] at this
   ·rw[t i aa];unfold cB;rw[ai hi]
   ·by_cases q:i<(a_ dat N ini cmp n p).2.1
    ·rw[C i q,t _ aa];unfold cB;rw[ah aa]
     congr 2;omega
    ·have:=b3 (i-(a_ dat N ini cmp n p).2.1) (by rw[List.length_drop];omega)
     rw[List.getElem?_drop] at this;rw[show(a_ dat N ini cmp n p).2.1+(i-(a_ dat N ini cmp n p).2.1)=i from aa] at this;rw[this]
     congr 2;omega
  ·have:=kK.stop (dat:=dat) (N:=N) (ini:=ini) (cmp:=cmp) (n:=n) p O g (by rw[j];exact r)
   rw[j] at this;exact⟨O,this,fun _ _=>rfl,fun i hi=>absurd hi (Nat.not_lt_zero _)⟩
end
end Go.Proofs.YtogmacnlpclgkaaGreatDoor
namespace Go.Proofs.YtogmacnlpclgkaaGreatDoor
open Go Go.Eng Go.Pz
set_option maxRecDepth 20000
def jo (x:Nat->Nat) (n:Nat):Ve (Nat×Nat×Nat) :=
 let d:=x 4
 if d/8%2=1 then .wr
 else if n<5+cJ d then .wr
 else if gO x (5+aQ d) (aB d)=false then .wr
 else if bC d=8/\64<=x (5+aQ d+aB d+7) then .op
 else
  let size:=eW x d (5+aQ d+aB d)
  let win:=if aD d then size else cj (x 5)
  if 8388608<win then .op else .ok (size,win,5+cJ d)
def oB (x:Nat->Nat) (n:Nat) (known sum:Bool) (size:Nat) (s:SS) (at_:Nat):Ve (SS×Nat) :=
 if known=true/\s.ol≠size then .wr
 else if sum=true then(if n<at_+4\/eX (fun i=>x (at_+i))≠gw s.out s.ol%4294967296 then .wr else .ok (s,at_+4))
 else .ok (s,at_)
def pC (x:Nat->Nat) (win most h at_:Nat) (s:SS):Ve SS :=
 if h/2%4=0 then .ok { s with out:=fj s.out s.ol (h/8) (aX x (at_+3)),ol:=s.ol+h/8 }
 else if h/2%4=1 then .ok { s with out:=fj s.out s.ol (h/8) (fun _=>x (at_+3)),ol:=s.ol+h/8 }
 else jS s win most (aX x (at_+3)) (h/8)
section
variable (x:Nat->Nat) (n room win most:Nat) (known sum:Bool) (size:Nat)
def fq:Nat->Nat->SS->Ve (SS×Nat)
 | 0,_,_=>.op
 | f+1,at_,s =>
  if n<at_+3 then .wr
  else
   let h:=dB x at_
   let k:=if h/2%4=1 then 1 else h/8
   if h/2%4=3\/131072<h/8\/n<at_+3+k then .wr
   else if win<h/8 then .op
   else
    (pC x win most h at_ s).bind fun g =>
    if room<g.ol then .op
    else if h%2=1 then oB x n known sum size g (at_+3+k)
    else fq f (at_+3+k) g
end
def SS.zero:SS:=⟨fun _=>0,0,none,none,none,none,1,4,8⟩
def gy (x:Nat->Nat) (n room:Nat):Ve ((Nat->Nat)×Nat×Nat) :=
 if n<4 then .wr
 else if bw x 0/16*16=407710288 then
  if n<8 then .wr else if n<8+bw x 4 then .wr else .ok (fun _=>0,0,8+bw x 4)
 else if bw x 0≠4247762216\/n<5 then .wr
 else(jo x n).bind fun r =>
  (fq x n room r.2.1 (if aD (x 4)=true then 131072 else min 131072 r.2.1) (bC (x 4) != 0) (dg (x 4)) r.1 n r.2.2 SS.zero).bind fun q=>.ok (q.1.out,q.1.ol,q.2)
def df (x:Nat->Nat) (N:Nat):Nat->Nat->(Nat->Nat)->Nat->Ve ((Nat->Nat)×Nat)
 | 0,_,_,_=>.op
 | f+1,at_,O,ol=>if at_<N then(gy (aX x at_) (N-at_) (4194304-ol)).bind fun r=>df x N f (at_+r.2.2) (fj O ol r.2.1 r.1) (ol+r.2.1) else .ok (O,ol)
theorem Cb {s g:SS} {F0 F1 F2:dV} {win most n cnt tl:Nat} {d TX:Nat->Nat} (h:iw s F0 F1 F2 win most d n cnt TX tl = .ok g):s.ol<=g.ol/\∀i,i<s.ol->g.out i=s.out i:=by
 unfold iw at h
 split at h
 ·cases h
 split at h
 ·cases h
 dsimp only at h
 split at h
 ·cases h
 generalize hx:ip _ _ _ _ _ _ _ _ _ _ _=r at h
 cases r with
 | op=>cases h
 | wr=>cases h
 | ok x =>
  obtain⟨k,j⟩:=qp cnt hx;dsimp only at k j;replace h:(ite _ _ _:Ve SS)=_:=h
  split at h
  ·cases h
  split at h
  ·cases h
  cases h;exact⟨by dsimp only;omega,fun i hi=>by dsimp only;rw[co (.inl aa)];exact j i hi⟩
theorem Ve.ite_wr {α:Type} {c:Prop} [Decidable c] {x:Ve α} {a:α} (h:(if c then Ve.wr else x) = .ok a):¬c/\x = .ok a:=by
 by_cases g:c
 ·rw[ai g] at h;cases h
 ·rw[ah g] at h;exact⟨g,h⟩
theorem Ve.ite_op {α:Type} {c:Prop} [Decidable c] {x:Ve α} {a:α} (h:(if c then Ve.op else x) = .ok a):¬c/\x = .ok a:=by
 by_cases g:c
 ·rw[ai g] at h;cases h
 ·rw[ah g] at h;exact⟨g,h⟩
theorem Ve.ite_or {α:Type} {c:Prop} [Decidable c] {x y:Ve α} {a:α} (h:(if c then x else y) = .ok a):x = .ok a\/y = .ok a:=by
 by_cases g:c
 ·rw[ai g] at h;exact .inl h
 ·rw[ah g] at h;exact .inr h
theorem Ve.bind_some {α β:Type} {x:Ve α} {f:α->Ve β} {b:β} (h:x.bind f = .ok b):∃a,x = .ok a/\f a = .ok b:=by
 cases x with
 | op=>cases h
 | wr=>cases h
 | ok a=>exact⟨a,rfl,h⟩
theorem Cc {s g:SS} {win most n:Nat} {d:Nat->Nat} (h:jS s win most d n = .ok g):s.ol<=g.ol/\∀i,i<s.ol->g.out i=s.out i:=by
 unfold jS at h
 obtain⟨R,_,h⟩:=Ve.bind_some h
 dsimp only at h
 have h:=(Ve.ite_wr h).2
 have h:=(Ve.ite_wr h).2
 rcases Ve.ite_or h with h|h
 ·have h:=(Ve.ite_op h).2
  cases h;exact⟨by dsimp only;omega,fun i hi=>co (.inl hi)⟩
 have h:=(Ve.ite_wr h).2
 have h:=(Ve.ite_op h).2
 obtain⟨l,_,h⟩:=Ve.bind_some h
 obtain⟨k,_,h⟩:=Ve.bind_some h
 obtain⟨j,_,h⟩:=Ve.bind_some h
 exact Cb (s:={ s with tree:=R.2 }) h
theorem Eu {x:Nat->Nat} {win most h at_:Nat} {s g:SS} (e:pC x win most h at_ s = .ok g):s.ol<=g.ol/\∀i,i<s.ol->g.out i=s.out i:=by
 unfold pC at e
 rcases Ve.ite_or e with e|e
 ·cases e;exact⟨by dsimp only;omega,fun i hi=>by dsimp only;exact co (.inl hi)⟩
 rcases Ve.ite_or e with e|e
 ·cases e;exact⟨by dsimp only;omega,fun i hi=>by dsimp only;exact co (.inl hi)⟩
 ·exact Cc e
theorem iL {x:Nat->Nat} {n room win most:Nat} {known sum:Bool} {size:Nat}:∀(f:Nat) {at_:Nat} {s s1:SS} {e:Nat},fq x n room win most known sum size f at_ s = .ok (s1,e) ->
  s.ol<=s1.ol/\(∀i,i<s.ol->s1.out i=s.out i)/\(known=true->s1.ol=size)/\s1.ol<=room/\at_+3<=e/\e<=n
 | 0,_,_,_,_,h=>by cases h
 | f+1,at_,s,s1,e,h=>by
  rw[fq] at h;have h:=(Ve.ite_wr h).2
  dsimp only at h;obtain⟨hb,h⟩:=Ve.ite_wr h;have h:=(Ve.ite_op h).2
  obtain⟨l,hs,h⟩:=Ve.bind_some h;obtain⟨p,k⟩:=Eu hs;obtain⟨z,h⟩:=Ve.ite_op h;rcases Ve.ite_or h with h|h
  ·unfold oB at h;obtain⟨y,h⟩:=Ve.ite_wr h;have g:known=true->l.ol=size:=fun j=>by
    by_cases q:l.ol=size
    ·exact q
    ·exact absurd ⟨j,q⟩ y
   rcases Ve.ite_or h with h|h
   ·obtain⟨C,h⟩:=Ve.ite_wr h;cases h;exact⟨p,k,g,aa,aa,aa⟩
   ·cases h;exact⟨p,k,g,aa,aa,aa⟩
  ·obtain⟨A,i2,r,t,B,u⟩:=iL f h;exact⟨aa,fun i hi=>(i2 i aa).trans (k i hi),r,t,aa,u⟩
end Go.Proofs.YtogmacnlpclgkaaGreatDoor
namespace Go.Proofs.YtogmacnlpclgkaaGreatDoor
open Go Go.Eng Go.Pz
attribute [local irreducible] RO J av aO
set_option maxRecDepth 20000
variable {G:ao} {d:Nat->Nat}
theorem AE {l t':Option jR} {n K k:Nat} {L:Nat->Nat} (hd:∀i,d i<256) (ht:∀T,l=some T->ql T) (h:lX l d n = .ok ((K,L,k),t')):K<=131072/\k<=n/\∀T,t'=some T->ql T:=by
 unfold lX at h
 by_cases h0:n=0
 ·rw[ai h0] at h;cases h
 rw[ah h0] at h
 dsimp only at h
 by_cases p:d 0%4<2
 ·rw[ai p] at h;generalize (if d 0/4%4=1 then 2 else if d 0/4%4=3 then 3 else 1)=hh at h;generalize (if d 0/4%4=1 then d 0/16+d 1*16 else if d 0/4%4=3 then d 0/16+d 1*16+d 2*4096 else d 0/8)=KK at h;by_cases c1:n<hh
  ·rw[ai c1] at h;cases h
  rw[ah c1] at h;by_cases c2:131072<KK
  ·rw[ai c2] at h;cases h
  rw[ah c2] at h;by_cases c3:d 0%4=1
  ·rw[ai c3] at h;by_cases c4:n<hh+1
   ·rw[ai c4] at h;cases h
   rw[ah c4] at h;cases h;exact⟨aa,aa,ht⟩
  ·rw[ah c3] at h;by_cases c4:n<hh+KK
   ·rw[ai c4] at h;cases h
   rw[ah c4] at h;cases h;exact⟨aa,aa,ht⟩
 ·rw[ah p] at h;by_cases c1:n<(di d).1
  ·rw[ai c1] at h;cases h
  rw[ah c1] at h;by_cases c2:n<(di d).1+(di d).2.2
  ·rw[ai c2] at h;cases h
  rw[ah c2] at h;obtain⟨r,g,h⟩:=Ve.bind_some h;obtain⟨t,k0⟩:=r;have j:∀T,t=some T->ql T:=by
   by_cases c3:d 0%4=2
   ·rw[ai c3] at g
    cases hS:kR (aX d (di d).1) (di d).2.2 with
    | none=>rw[hS] at g;cases g
    | some q =>
     obtain⟨T,u⟩:=q;rw[hS] at g;have g:(if T.tab 0%256<T.most then Ve.op else Ve.ok (some T,u)) = .ok (t,k0):=g
     by_cases c4:T.tab 0%256<T.most
     ·rw[ai c4] at g;cases g
     rw[ah c4] at g;cases g;intro T' e
     cases e;exact(Av (d:=aX d (di d).1) (fun i=>hd _) hS).1
   ·rw[ah c3] at g;cases g;exact ht
  cases t with
  | none=>cases h
  | some T =>
   have h:(if 131072<(di d).2.1\/(di d).2.1=0 then Ve.op else(jX T (aX d ((di d).1+k0)) ((di d).2.2-k0) (di d).2.1 (decide (d 0/4%4≠0))).bind fun L=>.ok (((di d).2.1,L,(di d).1+(di d).2.2),some T)) = .ok ((K,L,k),t'):=h
   by_cases c5:131072<(di d).2.1\/(di d).2.1=0
   ·rw[ai c5] at h;cases h
   rw[ah c5] at h;obtain⟨L',y,h⟩:=Ve.bind_some h;cases h;exact⟨aa,aa,j⟩
theorem IK {t:Option dV} {kind mode n k:Nat} {T:dV} (K:kind<=2) (ht:∀T,t=some T->xE kind T) (h:xx t kind mode d n=some (T,k)):xE kind T/\k<=n:=by
 unfold xx at h
 by_cases y:mode=0
 ·rw[ai y] at h;cases h;have j:=AB kind aa
  exact⟨⟨j.lim,j.sym,j.next⟩,Nat.zero_le _⟩
 rw[ah y] at h
 by_cases z:mode=1
 ·rw[ai z] at h;by_cases c1:n=0\/dF kind<d 0
  ·rw[ai c1] at h;cases h
  rw[ah c1] at h;cases h;exact⟨⟨Nat.zero_le _,fun p _=>by dsimp only;omega,fun p _=>aZ _⟩,aa⟩
 rw[ah z] at h
 by_cases u:mode=2
 ·rw[ai u] at h;obtain⟨r,H,h⟩:=Option.map_eq_some_iff.1 h;obtain⟨log,sh,c,q⟩:=r;cases h;have l:dD kind<=9:=by unfold dD;split<;>omega
  obtain⟨J,M,F,C,O,_,A⟩:=kq l H;refine⟨⟨by show log<=9;omega,fun p g=>?_,fun p g=>(h_ A g).2.2⟩,by dsimp only;omega⟩
  have g:p<2^log:=g
  have:aI sh c (2^log) p<c:=by
   by_cases i:p<2^log-aL sh c
   ·exact(gf A i).1
   ·exact(gR i g).1
  show aI sh c (2^log) p<=dF kind
  omega
 ·rw[ah u] at h;obtain⟨T',I,B⟩:=Option.map_eq_some_iff.1 h;cases B;exact⟨ht _ I,Nat.zero_le _⟩
def SS.tt (s:SS) (k:Nat):Option dV:=if k=0 then s.t0 else if k=1 then s.t1 else s.t2
structure Gr (s:SS):Prop where
 tr:∀T,s.tree=some T->ql T
 tb:∀k,k<=2->∀T,s.tt k=some T->xE k T
 o1:1<=s.o1/\s.o1<=2^40
 o2:1<=s.o2/\s.o2<=2^40
 o3:1<=s.o3/\s.o3<=2^40
def IZ (sb:Nat) (x:SB) (s:SS) (M:ao):Prop:=∃j g i k h,M=(sb,dW x)::(j++(g++(i++(k++h))))/\(x.ol=s.ol/\x.o1=s.o1/\x.o2=s.o2/\x.o3=s.o3) /\
 dH 1 (.slice x.oa s.ol x.cp) s.ol (dw s.out) j/\sX s.tree x.tr g/\vH s.t0 x.t0 i/\vH s.t1 x.t1 k/\vH s.t2 x.t2 h
def Kh (sb:Nat) (x:SB) (r:Ve SS) (v:Value) (m:ao):Prop:=match r with
 | .op=>v = .int .i64 0
 | .wr=>v = .int .i64 2
 | .ok s=>v = .int .i64 1/\Gr s/\∃x',IZ sb x' s m/\x'.win=x.win/\x'.most=x.most
def xM (s:SS) (win most:Nat) (d:Nat->Nat) (n cnt:Nat) (TX:Nat->Nat) (tl md:Nat):Nat->Nat->(Nat->dV)->Ve SS
 | 0,p,T=>iw s (T 0) (T 1) (T 2) win most (aX d p) (n-p) cnt TX tl
 | k+1,p,T=>(fp (s.tt (2-k)) (2-k) (md/2^(6-2*(2-k))%4) (aX d p) (n-p)).bind fun r=>xM s win most d n cnt TX tl md k (p+r.2) (fun j=>if j=2-k then r.1 else T j)
theorem Gs (s:SS) (win most:Nat) (d:Nat->Nat) (n cnt:Nat) (TX:Nat->Nat) (tl md p0:Nat) (T:Nat->dV) :
  xM s win most d n cnt TX tl md 3 p0 T=(fp s.t0 0 (md/64%4) (aX d p0) (n-p0)).bind fun g=>(fp s.t1 1 (md/16%4) (aX d (p0+g.2)) (n-(p0+g.2))).bind fun h=>(fp s.t2 2 (md/4%4) (aX d (p0+g.2+h.2)) (n-(p0+g.2+h.2))).bind fun i =>
   iw s g.1 h.1 i.1 win most (aX d (p0+g.2+h.2+i.2)) (n-(p0+g.2+h.2+i.2)) cnt TX tl:=rfl
theorem Cd (s:SS) (win most:Nat) (d:Nat->Nat) (n cnt:Nat) (TX:Nat->Nat) (tl md p:Nat) (T:Nat->dV) {i:Nat} (hi:i<=2) :
  xM s win most d n cnt TX tl md (3-i) p T=(fp (s.tt i) i (md/2^(6-2*i)%4) (aX d p) (n-p)).bind fun r=>xM s win most d n cnt TX tl md (3-(i+1)) (p+r.2) (fun j=>if j=i then r.1 else T j):=by
 have g:i=0\/i=1\/i=2:=aa
 rcases g with rfl|rfl|rfl<;>rfl
attribute [local irreducible] L3
theorem Ce {s g:SS} {T0 T1 T2:dV} {win most n cnt tl:Nat} {TX:Nat->Nat} (h:iw s T0 T1 T2 win most d n cnt TX tl = .ok g):g.tree=s.tree/\g.t0=some T0/\g.t1=some T1/\g.t2=some T2:=by
 unfold iw at h
 have h:=(Ve.ite_op h).2
 have h:=(Ve.ite_wr h).2
 have h:=(Ve.ite_wr h).2
 obtain⟨x,_,h⟩:=Ve.bind_some h
 have h:=(Ve.ite_op h).2
 have h:=(Ve.ite_op h).2
 cases h
 exact⟨rfl,rfl,rfl,rfl⟩
theorem Ve.ok_bind {α β:Type} (a:α) (f:α->Ve β):(Ve.ok a).bind f=f a:=rfl
def SB.like (a b:SB):Prop:=(a.oa=b.oa/\a.ol=b.ol/\a.cp=b.cp/\a.win=b.win/\a.most=b.most/\a.tr=b.tr)/\a.o1=b.o1/\a.o2=b.o2/\a.o3=b.o3
theorem Gt (x:SB) (k:Nat) (p:Option Addr):(x.wT k p).like x:=by
 unfold SB.wT
 split
 ·exact⟨⟨rfl,rfl,rfl,rfl,rfl,rfl⟩,rfl,rfl,rfl⟩
 split<;>exact⟨⟨rfl,rfl,rfl,rfl,rfl,rfl⟩,rfl,rfl,rfl⟩
theorem yX {a b c:SB} (u:a.like b) (j:b.like c):a.like c:=by
 obtain⟨⟨a1,t,y,a4,A,r⟩,k,g,l⟩:=u
 obtain⟨⟨i,q,b3,b4,b5,p⟩,h,z,B⟩:=j
 exact⟨⟨a1.trans i,t.trans q,y.trans b3,a4.trans b4,A.trans b5,r.trans p⟩,k.trans h,g.trans z,l.trans B⟩
theorem JE (x:SB) {k j:Nat} (i:k<=2) (l:j<=2) (p:Option Addr):(x.wT k p).tp j=if j=k then p else x.tp j:=by
 have g:k=0\/k=1\/k=2:=aa
 have h:j=0\/j=1\/j=2:=aa
 rcases g with rfl|rfl|rfl<;>rcases h with rfl|rfl|rfl<;>rfl
def lZ (ms:Nat->ao):ao:=ms 0++(ms 1++ms 2)
def uE (ms:Nat->ao) (i:Nat):ao:=if i=0 then ms 1++ms 2 else if i=1 then ms 0++ms 2 else ms 0++ms 1
theorem qq (ms:Nat->ao) {i:Nat} (hi:i<=2):(lZ ms).Perm (ms i++uE ms i):=by
 have g:i=0\/i=1\/i=2:=aa
 unfold lZ uE
 rcases g with rfl|rfl|rfl
 ·exact .refl _
 ·rw[ah (by decide),ai rfl];exact an
 ·rw[ah (by decide),ah (by decide)];exact an
theorem Ev (ms:Nat->ao) {i:Nat} (hi:i<=2) (h:ao):(lZ fun j=>if j=i then h else ms j).Perm (h++uE ms i):=by
 refine(qq _ hi).trans ?_
 have g:i=0\/i=1\/i=2:=aa
 rw[ai rfl]
 unfold uE
 rcases g with rfl|rfl|rfl<;>exact .refl _
theorem Ew {ms:Nat->ao} {i:Nat} (hi:i<=2) {p:Nat×bk} (h:p∈ms i):p∈lZ ms:=(qq ms hi).mem_iff.2 (List.mem_append.2 (.inl h))
structure KH where
 i:Nat
 x:SB
 T:Nat->dV
 ms:Nat->ao
 tt:Nat->Option dV
 p:Nat
 da:Option Addr
 dc:Nat
 j:ao
set_option maxHeartbeats 1000000 in
theorem vY (sb:Nat) (x:SB) (s:SS) (M:ao) (hF:IZ sb x s M) (hS:Gr s) (d5:s.ol<=2^30) (ce:x.most<=2^20) (da:Option Addr) (N cp:Nat) (hd:∀i,d i<256) (hv:aU G da N cp d) (hN:N<=2^30) :
  av Tryz.prog G 46 #[bf sb,.slice da N cp] M (Kh sb x (jS s x.win x.most d N)):=by
 obtain⟨W,tm,m0,m1,m2,rfl,⟨eb,hx1,c8,d4⟩,br,hT,a6,a4,a5⟩:=hF
 refine bE Tryz.func46 fun c0 h0 hex=>?_
 obtain⟨E,g⟩:∃E,E=jS s x.win x.most d N:=⟨_,rfl⟩
 rw[<- g]
 unfold jS at g
 refine go ?_
 refine ar (yS sb x s.tree tm hT hS.tr da N cp hd hv hN) ?_ (fm:=W++(m0++(m1++m2))) (hs:=.of_perm an)
 cases hL:lX s.tree d N with
 | op =>
  rw[hL] at g;replace g:E = .op:=g
  subst g;rintro v m ⟨oa,l,cq,y,rfl⟩;refine go ?_;refine ac rfl (fun _=>?_) (fun h=>absurd h (by decide))
  refine go ?_;exact af (bx [4] rfl)
 | wr =>
  rw[hL] at g;replace g:E = .wr:=g
  subst g;rintro v m ⟨oa,l,cq,y,rfl⟩;refine go ?_;refine ac rfl (fun _=>?_) (fun h=>absurd h (by decide))
  refine go ?_;exact af (bx [4] rfl)
 | ok R =>
 obtain⟨⟨K,L,k⟩,t⟩:=R
 rw[hL] at g
 rw[Ve.ok_bind] at g
 dsimp only at g
 obtain⟨hK,cu,ca⟩:=AE hd hS.tr hL
 rintro v m ⟨ta,tc,p,B,I,rfl,rfl,bo,cx⟩
 obtain⟨u,U⟩:∃u,u=x.wTr p:=⟨_,rfl⟩
 rw[<- U]
 have l1:u.oa=x.oa/\u.ol=s.ol/\u.cp=x.cp/\u.win=x.win/\u.most=x.most/\u.tr=p/\u.o1=s.o1/\u.o2=s.o2/\u.o3=s.o3:=by rw[U];exact⟨rfl,eb,rfl,rfl,rfl,rfl,hx1,c8,d4⟩
 have l2:u.t0=x.t0/\u.t1=x.t1/\u.t2=x.t2:=by rw[U];exact⟨rfl,rfl,rfl⟩
 clear U
 obtain⟨la,ll,lc,lw,a1,dm,b9,cc,b7⟩:=l1
 obtain⟨c6,d2,es⟩:=l2
 rw[<- c6] at a6
 rw[<- d2] at a4
 rw[<- es] at a5
 rw[<- la,<- lc] at br
 rw[<- dm] at bo
 rw[<- lw,<- a1] at g
 rw[<- a1] at ce
 refine bj (m':=(sb,dW u)::(W++(B++(I++(m0++(m1++m2)))))) (.of_perm an) ?_
 refine go ?_
 refine ac rfl (fun h=>absurd rfl h) (fun _=>?_)
 refine go ?_
 have c7:=hv.le
 refine cT k N hv rfl rfl rfl rfl rfl rfl rfl cu c7 rfl ?_
 have am:aU G (ek da k cp) (N-k) (cp-k) (aX d k):=hv.sub cu (aZ _)
 obtain⟨cm,a9⟩:∃cm,cm=ek da k cp:=⟨_,rfl⟩
 rw[<- a9] at am ⊢
 clear a9
 refine go ?_
 refine ac rfl (fun hz=>?_) (fun hz=>?_)
 ·rw[ai aa] at g;subst g;refine go ?_;exact af (bx [4] rfl)
 rw[ah aa] at g
 obtain⟨b1,o1,rfl⟩:=am.some aa
 have cs:∀i,aX d k i<256:=fun i=>hd _
 have d0:aX d k 0=d k:=by unfold aX;rw[Nat.add_zero]
 have eL:=hd k
 have ev:=hd (k+1)
 have ex:=hd (k+2)
 obtain⟨h,hh⟩:∃h,h=if d k=255 then 3 else if 128<=d k then 2 else 1:=⟨_,rfl⟩
 rw[<- hh] at g
 refine go ?_
 rw[d0]
 refine nv (σ:=Unit) (fun _=>[(0,bf sb),(1,.slice (some ⟨b1,o1,none⟩) (N-k) (cp-k)),(5,.slice ta K tc),(8,.int .i64 (d k:Nat)),(9,ay h),(70,undef),(71,undef),(72,undef),(75,undef),(76,undef),(77,undef),(78,undef),(79,undef),(80,undef),(81,undef),(137,undef),(138,undef),(139,undef)])
  (fun _=>(sb,dW u)::(W++(B++(I++(m0++(m1++m2)))))) (fun _=>True) ?_ ?_
 ·refine ac rfl (fun hq=>?_) (fun hq=>?_)
  ·rw[ai aa] at hh;subst hh;refine go ?_;exact⟨(),trivial,cF,.refl _⟩
  ·rw[ah aa] at hh;refine go ?_;refine ac rfl (fun bt=>?_) (fun bt=>?_)
   ·rw[ai aa] at hh;subst hh;refine go ?_;exact⟨(),trivial,cF,.refl _⟩
   ·rw[ah aa] at hh;subst hh;refine go ?_;exact⟨(),trivial,cF,.refl _⟩
 intro _ f _
 have fa:h<=3/\1<=h:=by rw[hh];split<;>(try split)<;>omega
 refine go ?_
 refine ac rfl (fun hs=>?_) (fun hs=>?_)
 ·rw[ai aa] at g;subst g;refine go ?_;exact af (bx [4] rfl)
 rw[ah aa] at g
 obtain⟨cnt,bW⟩:∃cnt,cnt=if h=3 then d (k+1)+d (k+2)*256+32512 else if h=2 then(d k-128)*256+d (k+1) else d k:=⟨_,rfl⟩
 rw[<- bW] at g
 have fc:cnt<2^17:=by rw[bW];split<;>(try split)<;>omega
 refine go ?_
 refine nv (σ:=Unit) (fun _=>[(0,bf sb),(1,.slice (some ⟨b1,o1,none⟩) (N-k) (cp-k)),(5,.slice ta K tc),(8,ay cnt),(9,ay h),(70,undef),(71,undef),(72,undef),(75,undef),(76,undef),(77,undef),(78,undef),(79,undef),(80,undef),(81,undef),(137,undef),(138,undef),(139,undef)])
  (fun _=>(sb,dW u)::(W++(B++(I++(m0++(m1++m2)))))) (fun _=>True) ?_ ?_
 ·refine ac rfl (fun hq=>?_) (fun hq=>?_)
  ·obtain rfl:h=2:=aa;rw[ah (by decide),ai rfl] at bW
   have eh:128<=d k:=by
    by_cases c1:d k=255
    ·rw[ai c1] at hh;omega
    rw[ah c1] at hh;by_cases c2:128<=d k
    ·exact c2
    ·rw[ah c2] at hh;omega
   have eB:=cs 1
   refine go ?_;refine⟨(),trivial,⟨rfl,rfl,rfl,?_,rfl,rfl,rfl,rfl,rfl,rfl,rfl,rfl,rfl,rfl,rfl,rfl,rfl,rfl,trivial⟩,.refl _⟩
   rw[bW];rfl
  ·refine go ?_;refine ac rfl (fun bt=>?_) (fun bt=>?_)
   ·obtain rfl:h=3:=aa;rw[ai rfl] at bW;refine go ?_;have bs:=am.sub (l:=1) (h:=3) aa aa
    rw[kW,ah aa] at bs;have e2:bT (fun i=>aX d k (1+i)) 2=d (k+1)+d (k+2)*256:=by rw[D8];rfl
    refine ar (gj _ 2 (cp-k-1) (fun i=>aX d k (1+i)) (fun _=>cs _) ⟨bs.le,bs.is⟩ (by rw[e2];omega) aa) ?_ (fm:=(sb,dW u)::(W++(B++(I++(m0++(m1++m2)))))) (hs:=.of_perm an)
    rintro v m ⟨rfl,rfl⟩;rw[e2,List.append_nil];refine go ?_;refine⟨(),trivial,⟨rfl,rfl,rfl,?_,rfl,rfl,rfl,rfl,rfl,rfl,rfl,rfl,rfl,rfl,rfl,rfl,rfl,rfl,trivial⟩,.refl _⟩
    rw[bW];rfl
   ·rw[ah aa,ah aa] at bW;refine go ?_;refine⟨(),trivial,⟨rfl,rfl,rfl,?_,rfl,rfl,rfl,rfl,rfl,rfl,rfl,rfl,rfl,rfl,rfl,rfl,rfl,rfl,trivial⟩,.refl _⟩
    rw[bW];rfl
 intro _ f _
 refine go ?_
 refine cT h (N-k) am rfl rfl rfl rfl rfl rfl rfl aa aa rfl ?_
 have aw:aU G (ek (some ⟨b1,o1,none⟩) h (cp-k)) (N-k-h) (cp-k-h) (aX d (k+h)):=by
  have:=am.sub (l:=h) (h:=N-k) aa (aZ _)
  rwa[show(fun i=>aX d k (h+i))=aX d (k+h) from funext fun i=>by unfold aX;rw[Nat.add_assoc]] at this
 obtain⟨cS,bd⟩:∃cS,cS=ek (some ⟨b1,o1,none⟩) h (cp-k):=⟨_,rfl⟩
 rw[<- bd] at aw ⊢
 clear bd
 refine go ?_
 refine ac rfl (fun ec=>?_) (fun ec=>?_)
 ·rw[ai aa] at g;refine go ?_;refine aJ 69 rfl (fun ds=>?_) (fun ds=>?_)
  ·rw[ai (.inl aa)] at g;subst g;refine go ?_;exact af (bx [4] rfl)
  refine go ?_;refine aJ 74 rfl (fun eo=>?_) (fun eo=>?_)
  ·rw[ai (.inr (.inl aa))] at g;subst g;refine go ?_;exact af (bx [4] rfl)
  refine go ?_;refine ac rfl (fun eq=>?_) (fun eq=>?_)
  ·rw[ai (.inr (.inr aa))] at g;subst g;refine go ?_;exact af (bx [4] rfl)
  rw[ah aa] at g;refine go ?_;obtain⟨src,c5,cd⟩:=(cx.mono (M':=((sb,dW u)::(W++(B++(I++(m0++(m1++m2))))))++G) fun q hq=>by
   rcases List.mem_append.1 hq with h|h
   ·simp[h]
   ·simp[h]).src
  refine bg (s:=0) (src:=src) (k:=K) (len:=s.ol) (v:=.slice u.oa u.ol u.cp) (cl:=dw s.out) (sm:=W) (fm:=(sb,dW u)::(B++(I++(m0++(m1++m2))))) rfl rfl rfl rfl z5 (by decide) rfl rfl (by rw[ll];exact br)
   an c5 (fun y hy=>by rw[cd y aa];rfl) aa hex rfl ?_
  intro w om4 cr cb;clear cb;obtain⟨a3,a8,rfl⟩:=bV cr;have d6:dH 1 (.slice a3 (s.ol+K) a8) (s.ol+K) (dw (fj s.out s.ol K L)) om4:=bR cr fun y hy=>by
   have hy:y<(s.ol+K)*(0+1):=hy
   unfold dw;by_cases e8:y<s.ol
   ·rw[ai aa,co aa]
   ·rw[ah aa,cd _ aa,dr aa aa,show y-s.ol*(0+1)=y-s.ol from aa]
  refine go ?_;refine af ?_;rw[g];refine ag [4] (post:=(sb,dW { u with oa:=a3,ol:=s.ol+K,cp:=a8 })::(om4++(B++(m0++(m1++m2))))) (junk:=I) ⟨rfl,⟨ca,hS.tb,hS.o1,hS.o2,hS.o3⟩,{ u with oa:=a3,ol:=s.ol+K,cp:=a8 },⟨om4,B,m0,m1,m2,rfl,⟨rfl,b9,cc,b7⟩,d6,bo,a6,a4,a5⟩,lw,a1⟩ rfl (.trans (.cons (aW (B':=dW { u with oa:=a3,ol:=s.ol+K,cp:=a8 }) rfl rfl rfl rfl) (.refl _)) (.of_perm an))
 rw[ah aa] at g
 refine go ?_
 refine ac rfl (fun er=>?_) (fun er=>?_)
 ·rw[ai aa] at g;subst g;refine go ?_;exact af (bx [4] rfl)
 rw[ah aa] at g
 obtain⟨b2,o2,rfl⟩:=aw.some aa
 obtain⟨md,a0⟩:∃md,md=d (k+h):=⟨_,rfl⟩
 rw[<- a0] at g
 have cN:aX d (k+h) 0=md:=by rw[a0];unfold aX;rw[Nat.add_zero]
 have d8:md<256:=by rw[a0];exact hd _
 clear a0
 refine go ?_
 rw[cN]
 refine ac rfl (fun dt=>?_) (fun dt=>?_)
 ·rw[ai aa] at g;subst g;refine go ?_;exact af (bx [4] rfl)
 rw[ah aa] at g
 refine go ?_
 refine cT 1 (N-k-h) aw rfl rfl rfl rfl rfl rfl rfl aa aw.le rfl ?_
 have bv:aU G (ek (some ⟨b2,o2,none⟩) 1 (cp-k-h)) (N-(k+h+1)) (cp-k-h-1) (aX d (k+h+1)):=by
  have:=aw.sub (l:=1) (h:=N-k-h) aa (aZ _)
  rw[show N-k-h-1=N-(k+h+1) from aa] at this;rwa[show(fun i=>aX d (k+h) (1+i))=aX d (k+h+1) from funext fun i=>by unfold aX;congr 1;omega] at this
 obtain⟨b4,bc⟩:∃b4,b4=ek (some ⟨b2,o2,none⟩) 1 (cp-k-h):=⟨_,rfl⟩
 rw[show N-k-h-1=N-(k+h+1) from aa]
 rw[<- bc] at bv ⊢
 clear bc
 obtain⟨s1,b3⟩:∃s1:SS,s1={ s with tree:=t }:=⟨_,rfl⟩
 have g:E=xM s1 u.win u.most d N cnt L K md 3 (k+h+1) (fun _=>fo 0):=by rw[b3];exact g.trans (Gs { s with tree:=t } _ _ _ _ _ _ _ _ _ _).symm
 have bm:s1.tree=t/\(∀k,s1.tt k=s.tt k)/\s1.out=s.out/\s1.ol=s.ol/\s1.o1=s.o1/\s1.o2=s.o2/\s1.o3=s.o3:=by rw[b3];exact⟨rfl,fun _=>rfl,rfl,rfl,rfl,rfl,rfl⟩
 clear b3
 refine go ?_
 refine au (z:=.int .i64 0) (vs:=[.int .i64 ((0:Nat):Int),.int .i64 ((1:Nat):Int),.int .i64 ((2:Nat):Int)]) rfl rfl z3 rfl rfl rfl rfl hex fun lb fd=>?_
 refine bj (m':=(sb,dW u)::(lb,L3 fun i=>i)::(W++(B++(I++(m0++(m1++m2)))))) (.trans (.cons (B':=L3 fun i=>i) (by rw[Ed]) (.refl _)) (.of_perm an)) ?_
 refine go ?_
 refine aH (σ:=KH) [] (fun t=>[(0,bf sb),(1,.slice t.da (N-t.p) t.dc),(5,.slice ta K tc),(8,ay cnt),(10,ay md),(104,.slice (bi lb) 3 3),(105,.int .i64 3),(106,ay t.i)])
  (fun t=>(sb,dW t.x)::(lb,L3 fun i=>i)::(lZ t.ms++(W++(B++(I++t.j)))))
  (fun t=>t.i<=3/\t.p<=N/\t.x.like u/\aU G t.da (N-t.p) t.dc (aX d t.p)/\(∀k,k<=2->vH (t.tt k) (t.x.tp k) (t.ms k))/\(∀k,k<t.i->t.tt k=some (t.T k)/\xE k (t.T k))/\(∀k,t.i<=k->t.tt k=s.tt k)/\E=xM s1 u.win u.most d N cnt L K md (3-t.i) t.p t.T) (fun t=>3-t.i)
  ⟨0,u,fun _=>fo 0,fun k=>if k=0 then m0 else if k=1 then m1 else m2,s.tt,k+h+1,b4,cp-k-h-1,[]⟩ (.of_perm (show List.Perm _ ((sb,dW u)::(lb,L3 fun i=>i)::((m0++(m1++m2))++(W++(B++(I++[]))))) from an))
  ⟨Nat.zero_le _,by dsimp only;omega,⟨⟨rfl,rfl,rfl,rfl,rfl,rfl⟩,rfl,rfl,rfl⟩,bv,fun k J=>by
   have ax:k=0\/k=1\/k=2:=aa
   rcases ax with rfl|rfl|rfl
   ·exact a6
   ·exact a4
   ·exact a5,fun k J=>absurd J (Nat.not_lt_zero _),fun _ _=>rfl,g⟩ ?_
 clear g bv a6 a4 a5
 rintro⟨i,Y,T,ms,tt,p2,ad,H,j⟩ f ⟨et,d7,bq,ab,a2,O,bu,g⟩
 dsimp only at et d7 bq ab a2 O bu g ⊢
 refine go ?_
 refine ac rfl (fun e0=>?_) (fun e9=>?_)
 ·have F:i<=2:=aa
  rw[Cd _ _ _ _ _ _ _ _ _ _ _ F] at g;refine go ?_;refine aF (v:=ay i) rfl rfl (.there .here) (IE _ F) (IF _ F) rfl ?_
  refine go ?_;obtain⟨V,hV⟩:∃V,V=md/2^(6-2*i):=⟨_,rfl⟩
  have fb:V<256:=by rw[hV];exact Nat.lt_of_le_of_lt (Nat.div_le_self _ _) d8
  rw[<- hV] at g ⊢;have be:=bu i (aZ _)
  rw[bm.2.1 i,<- be] at g;have b5:=hS.tb i F
  rw[<- be] at b5;have d1:=qq ms F
  refine go ?_;refine ar (Gl (d:=aX d p2) sb Y i (V%4) F aa (tt i) (ms i) (a2 i F) ad (N-p2) H (fun _=>hd _) ab aa) ?_ (fm:=uE ms i++((lb,L3 fun i=>i)::(W++(B++(I++j))))) (hs:=.of_perm (by
   classical
   refine List.perm_iff_count.2 fun a=>?_
   have:=d1.count_eq a
   simp only[List.count_append,List.count_cons] at this ⊢
   omega))
  unfold fp at g
  cases hTb:xx (tt i) i (V%4) (aX d p2) (N-p2) with
  | none =>
   rw[hTb] at g;replace g:E = .wr:=g
   subst g;rintro v m ⟨y,rfl⟩;refine go ?_;exact af (bx [4] rfl)
  | some r =>
   obtain⟨T',C⟩:=r;obtain⟨dE,b8⟩:=IK (d:=aX d p2) F b5 hTb
   rw[hTb] at g;replace g:E=((if V%4=2/\N-p2-C<2 then Ve.op else .ok (T',C)).bind fun r=>xM s1 u.win u.most d N cnt L K md (3-(i+1)) (p2+r.2) (fun j=>if j=i then r.1 else T j)):=g
   rintro v m ⟨rfl,p',mt,rfl,dl⟩;refine go ?_;refine cT C (N-p2) ab rfl rfl rfl rfl rfl rfl rfl b8 ab.le rfl ?_
   have ea:aU G (ek ad C H) (N-(p2+C)) (H-C) (aX d (p2+C)):=by
    have:=ab.sub (l:=C) (h:=N-p2) b8 (aZ _)
    rw[show N-p2-C=N-(p2+C) from aa] at this;rwa[show(fun i=>aX d p2 (C+i))=aX d (p2+C) from funext fun i=>by unfold aX;congr 1;omega] at this
   rw[show N-p2-C=N-(p2+C) from aa] at g ⊢;have al:(uE ms i++(lb,L3 fun i=>i)::(W++(B++(I++j)))++(sb,dW (Y.wT i p'))::mt).Perm ((sb,dW (Y.wT i p'))::(lb,L3 fun i=>i)::((lZ fun j=>if j=i then mt else ms j)++(W++(B++(I++j))))):=by
    have h1:=Ev ms F mt
    generalize (lZ fun j=>if j=i then mt else ms j)=TM at h1 ⊢
    classical
    refine List.perm_iff_count.2 fun a=>?_
    have:=h1.count_eq a
    simp only[List.count_append,List.count_cons] at this ⊢
    omega
   have ba:¬(V%4=2/\N-(p2+C)<2)->(i+1<=3/\p2+C<=N/\(Y.wT i p').like u/\aU G (ek ad C H) (N-(p2+C)) (H-C) (aX d (p2+C))/\(∀k,k<=2->vH (if k=i then some T' else tt k) ((Y.wT i p').tp k) (if k=i then mt else ms k))/\(∀k,k<i+1->(if k=i then some T' else tt k)=some (if k=i then T' else T k)/\xE k (if k=i then T' else T k)) /\
     (∀k,i+1<=k->(if k=i then some T' else tt k)=s.tt k)/\E=xM s1 u.win u.most d N cnt L K md (3-(i+1)) (p2+C) fun j=>if j=i then T' else T j):=by
    intro d3;rw[ah d3] at g;refine⟨aa,aa,yX (Gt _ _ _) bq,ea,fun k J=>?_,fun k J=>?_,fun k J=>?_,g⟩
    ·rw[JE _ F J];by_cases he:k=i
     ·rw[ai he,ai he,ai he];exact dl
     ·rw[ah he,ah he,ah he];exact a2 k J
    ·by_cases he:k=i
     ·rw[ai he,ai he,he];exact⟨rfl,dE⟩
     ·rw[ah he,ah he];exact O k aa
    ·rw[ah aa];exact bu k aa
   refine go ?_;rw[<- hV];refine go ?_;refine aJ 136 rfl (fun c2=>?_) (fun c2=>?_)
   ·refine go ?_;refine ac rfl (fun c3=>?_) (fun c3=>?_)
    ·rw[ai ⟨aa,aa⟩] at g;replace g:E = .op:=g
     subst g;refine go ?_;exact af (bx [4] rfl)
    ·refine go ?_;exact⟨⟨i+1,Y.wT i p',fun j=>if j=i then T' else T j,fun j=>if j=i then mt else ms j,fun j=>if j=i then some T' else tt j,p2+C,ek ad C H,H-C,j⟩,by dsimp only;omega,ba aa,cF,.of_perm al⟩
   ·refine go ?_;exact⟨⟨i+1,Y.wT i p',fun j=>if j=i then T' else T j,fun j=>if j=i then mt else ms j,fun j=>if j=i then some T' else tt j,p2+C,ek ad C H,H-C,j⟩,by dsimp only;omega,ba aa,cF,.of_perm al⟩
 ·obtain rfl:i=3:=aa;have g:E=iw s1 (T 0) (T 1) (T 2) u.win u.most (aX d p2) (N-p2) cnt L K:=g
  obtain⟨⟨k1,k2,k3,k4,k5,k6⟩,k7,k8,k9⟩:=bq;have a7:∀k,k<=2->vH (some (T k)) (Y.tp k) (ms k):=fun k J=>by rw[<- (O k aa).1];exact a2 k J
  have ch:∀k,k<=2->TT (T 0) (T 1) (T 2) k=T k:=fun k J=>by
   have ax:k=0\/k=1\/k=2:=aa
   rcases ax with rfl|rfl|rfl<;>rfl
  obtain⟨e1,e2,e3,e4,e5,e6,e7⟩:=bm;have hI:∀k,k<=2->JC (lZ ms++I++G) (TT (T 0) (T 1) (T 2) k) (Y.tp k):=fun k J=>by
   rw[ch k J];obtain⟨pb,tb,TB,hp,hm,hg⟩:=a7 k J;have bb:∀q,q∈ms k->q∈lZ ms++I++G:=fun q hq=>List.mem_append.2 (.inl (List.mem_append.2 (.inl (Ew J hq))))
   exact⟨pb,tb,TB,hp,bb _ (by rw[hm];exact List.mem_cons_self),bb _ (by rw[hm];exact List.mem_cons_of_mem _ List.mem_cons_self),hg⟩
  have cn:aU (lZ ms++I++G) ta K tc L:=cx.mono fun q hq=>by
   rcases List.mem_append.1 hq with h|h
   ·exact List.mem_append.2 (.inl (List.mem_append.2 (.inr h)))
   ·exact List.mem_append.2 (.inr h)
  refine go ?_;refine ar (av.freeze (fm:=lZ ms++I) (xH (d:=aX d p2) sb Y s1 (T 0) (T 1) (T 2) hI (fun k J=>by rw[ch k J];exact(O k aa).2) W (by rw[k2,ll,e4]) (by rw[k7,b9,e5]) (by rw[k8,cc,e6]) (by rw[k9,b7,e7]) (by rw[k1,k3,e3,e4];exact br) (by rw[e4];exact d5) (by rw[k5];exact ce) (by rw[e5];exact hS.o1) (by rw[e6];exact hS.o2) (by rw[e7];exact hS.o3) ta K tc L cn aa cnt aa aa ad (N-p2) H (fun _=>hd _) (ab.mono fun q hq=>List.mem_append.2 (.inr hq)) aa)) ?_ (fm:=(lb,L3 fun i=>i)::(B++j)) (hs:=.of_perm an)
  rw[k4,k5,<- g];rintro v m ⟨m5,hR,rfl⟩
  cases hEE:E with
  | op =>
   rw[hEE] at hR;obtain rfl:=hR;refine go ?_;exact af (bx [4] rfl)
  | wr =>
   rw[hEE] at hR;obtain rfl:=hR;refine go ?_;exact af (bx [4] rfl)
  | ok s' =>
   rw[hEE] at hR;obtain⟨rfl,⟨q1,q2,q3⟩,c4,cw,b6,rfl,ee⟩:=hR;obtain⟨g1,g2,g3,g4⟩:=Ce (g.symm.trans hEE)
   refine go ?_;refine af ?_;refine ag [4] (post:=(sb,dW { Y with oa:=c4,ol:=s'.ol,cp:=cw,o1:=s'.o1,o2:=s'.o2,o3:=s'.o3 })::(b6++(B++lZ ms))) (junk:=(lb,L3 fun i=>i)::(I++j)) ⟨rfl,⟨fun T' h=>ca T' (by rw[<- e1,<- g1];exact h),fun k J T' h=>?_,q1,q2,q3⟩,{ Y with oa:=c4,ol:=s'.ol,cp:=cw,o1:=s'.o1,o2:=s'.o2,o3:=s'.o3 },⟨b6,B,ms 0,ms 1,ms 2,rfl,⟨rfl,rfl,rfl,rfl⟩,ee,?_,?_,?_,?_⟩,k4.trans lw,k5.trans a1⟩ rfl (.of_perm an)
   ·have ax:k=0\/k=1\/k=2:=aa
    rcases ax with rfl|rfl|rfl
    ·have h:s'.t0=some T':=h
     rw[g2] at h;cases h;exact(O 0 aa).2
    ·have h:s'.t1=some T':=h
     rw[g3] at h;cases h;exact(O 1 aa).2
    ·have h:s'.t2=some T':=h
     rw[g4] at h;cases h;exact(O 2 aa).2
   ·rw[g1,e1];show sX t Y.tr B
    rw[k6];exact bo
   ·rw[g2];exact a7 0 aa
   ·rw[g3];exact a7 1 aa
   ·rw[g4];exact a7 2 aa
end Go.Proofs.YtogmacnlpclgkaaGreatDoor
