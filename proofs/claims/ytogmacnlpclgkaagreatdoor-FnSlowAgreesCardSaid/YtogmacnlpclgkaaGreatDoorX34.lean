/- Texts 34. -/
import Derived.Test.YtogmacnlpclgkaaGreatDoorX29
set_option linter.all false
namespace Go.Proofs.YtogmacnlpclgkaaGreatDoor
open Go Go.Eng Go.Pz
set_option maxRecDepth 20000
structure fM (kind:Nat) (T:eQ) (F:dV):Prop where
 log:T.log=F.log
 lim:F.log<=9
 cell:∀p,p<2^F.log->T.cell p=cX kind (F.sym p) (F.bits p) (F.base p)
 sym:∀p,p<2^F.log->F.sym p<=dF kind
 next:∀p,p<2^F.log->F.base p+2^F.bits p<=2^F.log
theorem fM.bits {kind:Nat} {T:eQ} {F:dV} (h:fM kind T F) {p:Nat} (g:p<2^F.log):F.bits p<=9:=by
 have j:=h.next p g
 have i:F.bits p<=F.log:=(Nat.pow_le_pow_iff_right (by omega:1<2)).1 aa
 have:=h.lim
 omega
theorem IG:∀s,s<=52->3<=(cg 2 s).1/\(cg 2 s).2<=16:=by decide
theorem IH:∀s,s<=35->(cg 0 s).2<=16:=by decide
section
variable {S out L Z:Nat->Nat} {bl b0 wl win o:Nat}
theorem Ay (p:∀i,i<bl->S i=out (b0+i)) (q:∀i,i<wl->L i=out (b0-wl+i)) (h:wl<=b0) (r:wl=b0\/win<=wl) (h0:0<o) (y:o<=b0+bl) (u:o<=win) :
  ∀k i,i<bl+k->iR S bl L wl o k i=iR out (b0+bl) Z 0 o k (b0+i)
 | 0,i,hi=>p i hi
 | k+1,i,hi=>by
  rw[iR,iR];have j:=Ay p q h r h0 y u k
  by_cases l:i=bl+k
  ·subst l;rw[bL,show b0+(bl+k)=b0+bl+k from aa,bL,ah (show ¬b0+bl+k<o from aa)];by_cases g:bl+k<o
   ·rw[ai g,q _ aa,show b0-wl+(wl+(bl+k)-o)=b0+bl+k-o from aa,pn (t:=0) aa aa]
    rfl
   ·rw[ah g,j _ aa,show b0+(bl+k-o)=b0+bl+k-o from aa]
  ·rw[bz _ _ _ _ l,bz _ _ _ _ aa,j i aa]
theorem Az {k i:Nat} (hi:i<bl):iR S bl L wl o k i=S i:=pn (t:=0) aa aa
end
theorem Eg {m b li o1 o2 o3:Nat} (hb:b<2^m) (l:0<o1) (j:o1<4294967296) :
  mI m (2^m-(if 2<=m then 3 else 0)+b) li o1 o2 o3=sOff (2^m+b) (decide (li=0)) o1 o2 o3:=by
 unfold mI sOff
 by_cases h:2<=m
 ·have k:2^2<=2^m:=Nat.pow_le_pow_right aa h
  rw[ai aa,ai h,ai aa,show 2^m-3+b=2^m+b-3 from aa]
 ·have i:(o1+4294967295)%4294967296=o1-1:=aa
  rw[i];rcases(show m=0\/m=1 from aa) with rfl|rfl
  ·obtain rfl:b=0:=by
    have:2^0=1:=rfl
    omega
   by_cases hl:li=0
   ·simp[hl]
   ·simp[hl]
  ·have g:b=0\/b=1:=by
    have:2^1=2:=rfl
    omega
   rcases g with rfl|rfl
   ·by_cases hl:li=0
    ·simp[hl]
    ·simp[hl]
   ·by_cases hl:li=0
    ·simp[hl]
    ·simp[hl]
theorem Gn {m v w li o1 o2 o3:Nat} {nn:Bool} (h:2<=m) (g:3<v):(mI m w li o1 o2 o3).1=w/\(sOff v nn o1 o2 o3).1=v-3:=by
 unfold mI sOff
 rw[ai aa,ai g]
 exact⟨rfl,rfl⟩
theorem Eh {v o1 o2 o3:Nat} {nn:Bool}:(sOff v nn o1 o2 o3).2.1=(sOff v nn o1 o2 o3).1:=by
 unfold sOff
 dsimp only
 generalize (v-1+if nn=true then 1 else 0)=k
 by_cases h0:3<v
 ·rw[ai h0]
 rw[ah h0]
 by_cases i:k=1
 ·rw[ai i]
 rw[ah i]
 by_cases g:k=2
 ·rw[ai g]
 rw[ah g]
 by_cases h:k=3
 ·rw[ai h]
 rw[ah h]
structure uD (F0 F1 F2:dV) (p3 b0 wl:Nat) (L:Nat->Nat) (x:SQ) (y:XS):Prop where
 ol:x.ol=b0+y.bl
 out:∀i,i<y.bl->y.S i=x.out (b0+i)
 win:∀i,i<wl->L i=x.out (b0-wl+i)
 lo:y.lo=x.lo
 r1:y.r1=x.o1
 r2:y.r2=x.o2
 r3:y.r3=x.o3
 pos:0<x.o1
 lim:x.o1<4294967296
 a:y.a=8*p3+x.a
 s0:y.s0=x.s0
 s1:y.s1=x.s1
 s2:y.s2=x.s2
 b0:x.s0<2^F0.log
 b1:x.s1<2^F1.log
 b2:x.s2<2^F2.log
section
variable {F0 F1 F2:dV} {T0 T1 T2:eQ} {p3 b0 wl win most tl:Nat} {L LT TX d:Nat->Nat}
theorem Ei (u:∀i,i<tl->LT i=TX i) (k:wl<=b0) (O:wl=b0\/win<=wl) (C:win<4294967296) {x:SQ} {y:XS} (h:uD F0 F1 F2 p3 b0 wl L x y) {li o g:Nat} (U:0<g)
  {x':SQ} {y':XS} (f1:x'.out=iR (fj x.out x.ol li fun i=>TX (x.lo+i)) (x.ol+li) (fun _=>0) 0 o g) (f2:x'.ol=x.ol+li+g) (f3:x'.lo=x.lo+li) (F:x'.o1=o)
  (H:y'.S=y.S) (W:y'.bl=y.bl) (t:y'.lo=y.lo) (K:y'.r1=x'.o1) (V:y'.r2=x'.o2) (I:y'.r3=x'.o3) (Y:y'.a=8*p3+x'.a) (h0:y'.s0=x'.s0) (M:y'.s1=x'.s1) (J:y'.s2=x'.s2)
  (r:x'.s0<2^F0.log) (z:x'.s1<2^F1.log) (p:x'.s2<2^F2.log) (hl:li<=tl-x.lo) (B:0<o) (ab:o<=x.ol+li) (l:o<=win) :
  (n8 L wl LT tl y' li o g).2=true/\uD F0 F1 F2 p3 b0 wl L x' (n8 L wl LT tl y' li o g).1:=by
 have e1:=h.ol
 have q:=h.lo
 unfold n8
 rw[ah (by rw[t,q];omega)]
 dsimp only
 rw[ah aa,ah aa,W,ah aa]
 have hS:∀i,i<y.bl+li->fj y'.S y.bl li (fun i=>LT (y'.lo+i)) i=(fj x.out x.ol li fun i=>TX (x.lo+i)) (b0+i):=fun i hi=>by
  rw[H,t,q];by_cases j:i<y.bl
  ·rw[co (.inl j),co (.inl aa),h.out i j]
  ·rw[dr aa hi,dr aa aa,u _ aa]
   congr 1;omega
 have A:∀i,i<wl->L i=(fj x.out x.ol li fun i=>TX (x.lo+i)) (b0-wl+i):=fun i hi=>by
  rw[co (.inl aa),h.win i hi]
 refine⟨rfl,?_,fun i hi=>?_,fun i hi=>?_,?_,K,V,I,?_,?_,Y,h0,M,J,r,z,p⟩
 ·dsimp only;rw[f2];omega
 ·dsimp only at hi ⊢;rw[f1,Ay (Z:=fun _=>0) hS A k O B aa l g i aa,show b0+(y.bl+li)=x.ol+li from aa]
 ·rw[f1,Az aa];exact A i hi
 ·dsimp only;rw[t,f3,q]
 ·rw[F];exact B
 ·rw[F];omega
theorem II {x:XS} {li o i:Nat} (k:0<i) (h:o=0\/(x.bl+li<o/\wl<o-(x.bl+li))\/tl-x.lo<li):(n8 L wl LT tl x li o i).2=false:=by
 unfold n8
 by_cases g:tl-x.lo<li
 ·rw[ai g]
 rw[ah g]
 dsimp only
 rw[ah aa]
 by_cases j:o=0
 ·rw[ai j]
 rw[ah j,ai aa]
theorem jm {α:Type} {c:Prop} [Decidable c] {a b:α×Bool} (g:a.2=false) (hb:¬c->b.2=false):(if c then a else b).2=false:=by
 by_cases h:c
 ·rw[ai h];exact g
 ·rw[ah h];exact hb h
def vR (F0 F1 F2:dV) (p3 b0 wl:Nat) (L:Nat->Nat) (tl:Nat) (x:SQ) (y:XS) (r:Ve SQ) (q:XS×Bool):Prop :=
 match r with
 | .op=>True
 | .wr=>q.2=false
 | .ok g=>(y.bl+(tl-y.lo)<=131072->q.2=true)/\(q.2=true->uD F0 F1 F2 p3 b0 wl L g q.1)
set_option maxHeartbeats 2000000 in
theorem Gp (R0:fM 0 T0 F0) (Y:fM 1 T1 F1) (V:fM 2 T2 F2) (U:∀i,i<tl->LT i=TX i) (K:wl<=b0) (hw:wl=b0\/win<=wl) (a0:win<=33554432) (ax:wl<=33554432) {x:SQ} {y:XS} (h:uD F0 F1 F2 p3 b0 wl L x y) (last:Bool) :
  vR F0 F1 F2 p3 b0 wl L tl x y (ko F0 F1 F2 (aX d p3) win most b0 TX tl last x) (iI T0 T1 T2 d p3 L wl LT tl last y):=by
 have c0:T0.cell y.s0=cX 0 (F0.sym x.s0) (F0.bits x.s0) (F0.base x.s0):=by rw[h.s0];exact R0.cell _ h.b0
 have c1:T1.cell y.s1=cX 1 (F1.sym x.s1) (F1.bits x.s1) (F1.base x.s1):=by rw[h.s1];exact Y.cell _ h.b1
 have c2:T2.cell y.s2=cX 2 (F2.sym x.s2) (F2.bits x.s2) (F2.base x.s2):=by rw[h.s2];exact V.cell _ h.b2
 have y0:=R0.sym _ h.b0
 have y1:=Y.sym _ h.b1
 have y2:=V.sym _ h.b2
 have g0:=R0.bits h.b0
 have g1:=Y.bits h.b1
 have g2:=V.bits h.b2
 have n0:=R0.next _ h.b0
 have n1:=Y.next _ h.b1
 have n2:=V.next _ h.b2
 unfold ko iI
 dsimp only
 rw[c0,c1,c2]
 generalize F0.sym x.s0=k0 at *
 generalize F1.sym x.s1=k1 at *
 generalize F2.sym x.s2=k2 at *
 generalize F0.bits x.s0=q0 at *
 generalize F1.bits x.s1=q1 at *
 generalize F2.bits x.s2=q2 at *
 generalize F0.base x.s0=w0 at *
 generalize F1.base x.s1=w1 at *
 generalize F2.base x.s2=w2 at *
 have m0:(cg 0 k0).2<=16:=IH k0 y0
 obtain⟨u2,m2⟩:3<=(cg 2 k2).1/\(cg 2 k2).2<=16:=IG k2 y2
 have d0:gv 0 k0=cg 0 k0:=rfl
 have d2:gv 2 k2=cg 2 k2:=rfl
 have d1:gv 1 k1=(2^k1,k1):=rfl
 have z1:(cX 1 k1 q1 w1).more=k1:=rfl
 have z:(cX 1 k1 q1 w1).base=2^k1-(if 2<=k1 then 3 else 0):=rfl
 have z0:(cX 0 k0 q0 w0).more=(cg 0 k0).2:=rfl
 have M:(cX 0 k0 q0 w0).base=(cg 0 k0).1:=rfl
 have z2:(cX 2 k2 q2 w2).more=(cg 2 k2).2:=rfl
 have A:(cX 2 k2 q2 w2).base=(cg 2 k2).1:=rfl
 rw[d0,d1,d2,z0,M,z1,z,z2,A]
 have z3:(cX 0 k0 q0 w0).bits=q0:=rfl
 have z4:(cX 1 k1 q1 w1).bits=q1:=rfl
 have O:(cX 2 k2 q2 w2).bits=q2:=rfl
 have z6:(cX 0 k0 q0 w0).next=w0:=rfl
 have z7:(cX 1 k1 q1 w1).next=w1:=rfl
 have z8:(cX 2 k2 q2 w2).next=w2:=rfl
 rw[z3,z4,O,z6,z7,z8]
 clear z0 M z1 z z2 A z3 z4 O z6 z7 z8 d0 d1 d2 c0 c1 c2
 dsimp only
 generalize (cg 0 k0).1=B0 at *
 generalize (cg 0 k0).2=M0 at *
 generalize (cg 2 k2).1=B2 at *
 generalize (cg 2 k2).2=M2 at *
 have ea:=h.a
 have a2:=h.ol
 have ab:=h.lo
 have g:∀a b,b<=25->b<=a->dQ d (8*p3+a) b=aq (aX d p3) (a-b) b:=fun a b l u=>by
  rw[rvV_al2 l,du,show 8*p3+a-b=8*p3+(a-b) from aa]
 by_cases hA:x.a<k1+M2+M0
 ·rw[ai hA];refine jm rfl fun _=>?_
  refine jm rfl fun l=>?_
  rw[Decidable.not_not,dj aa] at l;refine jm rfl fun u=>?_
  rw[Decidable.not_not,dj aa] at u;refine jm rfl fun h3=>?_
  rw[Decidable.not_not,dj aa] at h3;omega
 rw[ah hA]
 have C:jM p3 y.a k1:=(dj aa).2 aa
 have I:jM p3 (y.a-k1) M2:=(dj aa).2 aa
 have J:jM p3 (y.a-k1-M2) M0:=(dj aa).2 aa
 rw[ah (Decidable.not_not.2 C),ah (Decidable.not_not.2 I),ah (Decidable.not_not.2 J)]
 clear C I J
 have ad:dQ d (y.a-k1) M2=aq (aX d p3) (x.a-k1-M2) M2:=by
  rw[ea,show 8*p3+x.a-k1=8*p3+(x.a-k1) from aa,g _ _ aa aa]
 have al:dQ d (y.a-k1-M2) M0=aq (aX d p3) (x.a-k1-M2-M0) M0:=by
  rw[ea,show 8*p3+x.a-k1-M2=8*p3+(x.a-k1-M2) from aa,g _ _ aa aa]
 rw[ad,al]
 have p:0<B2+aq (aX d p3) (x.a-k1-M2) M2:=aa
 generalize B2+aq (aX d p3) (x.a-k1-M2) M2=V2 at *
 generalize B0+aq (aX d p3) (x.a-k1-M2-M0) M0=V0 at *
 rw[h.r1,h.r2,h.r3]
 have H:mI k1 (2^k1-(if 2<=k1 then 3 else 0)+dQ d y.a k1) V0 x.o1 x.o2 x.o3=sOff (2^k1+aq (aX d p3) (x.a-k1) k1) (decide (V0=0)) x.o1 x.o2 x.o3 \/
   (67108861<=(mI k1 (2^k1-(if 2<=k1 then 3 else 0)+dQ d y.a k1) V0 x.o1 x.o2 x.o3).1/\67108861<=(sOff (2^k1+aq (aX d p3) (x.a-k1) k1) (decide (V0=0)) x.o1 x.o2 x.o3).1):=by
  by_cases hk:k1<=25
  ·left
   rw[ea,g _ _ hk aa];exact Eg (aY _ _ _) h.pos h.lim
  ·right
   have a1:2^26<=2^k1:=Nat.pow_le_pow_right aa aa
   obtain⟨F,B⟩:=Gn (m:=k1) (v:=2^k1+aq (aX d p3) (x.a-k1) k1) (w:=2^k1-(if 2<=k1 then 3 else 0)+dQ d y.a k1) (li:=V0) (o1:=x.o1) (o2:=x.o2) (o3:=x.o3) (nn:=decide (V0=0)) aa aa
   rw[F,B,ai aa];omega
 have k:=Eh (v:=2^k1+aq (aX d p3) (x.a-k1) k1) (o1:=x.o1) (o2:=x.o2) (o3:=x.o3) (nn:=decide (V0=0))
 generalize mI k1 (2^k1-(if 2<=k1 then 3 else 0)+dQ d y.a k1) V0 x.o1 x.o2 x.o3=q at *
 generalize sOff (2^k1+aq (aX d p3) (x.a-k1) k1) (decide (V0=0)) x.o1 x.o2 x.o3=r at *
 have j:(tl-x.lo<V0\/r.1=0\/x.ol+V0<r.1)->¬131072<y.bl+(tl-y.lo)->∀y':XS,y'.bl=y.bl->y'.lo=y.lo->(n8 L wl LT tl y' V0 q.1 V2).2=false:=by
  intro t aw y' F B
  refine II p ?_
  rw[F,B,ab];by_cases l:tl-x.lo<V0
  ·exact .inr (.inr l)
  ·rcases H with rfl|⟨u,h3⟩
   ·rcases t with W|W|W
    ·exact absurd W l
    ·exact .inl W
    ·exact .inr (.inl aa)
   ·exact .inr (.inl aa)
 by_cases hB:tl-x.lo<V0
 ·rw[ai hB];refine jm rfl fun t=>?_
  cases last
  ·rw[ah (by decide)]
   exact jm rfl fun _=>jm rfl fun _=>jm rfl fun _=>j (.inl hB) t _ rfl rfl
  ·rw[ai rfl];exact j (.inl hB) t _ rfl rfl
 rw[ah hB]
 by_cases hC:r.1=0\/x.ol+V0<r.1
 ·rw[ai hC];refine jm rfl fun t=>?_
  cases last
  ·rw[ah (by decide)]
   exact jm rfl fun _=>jm rfl fun _=>jm rfl fun _=>j (.inr hC) t _ rfl rfl
  ·rw[ai rfl];exact j (.inr hC) t _ rfl rfl
 rw[ah hC]
 by_cases hD:win<r.1\/most<x.ol+V0-b0+V2
 ·rw[ai hD];trivial
 rw[ah hD]
 obtain rfl:q=r:=by
  rcases H with H|⟨_,H⟩
  ·exact H
  ·omega
 clear j H
 cases last
 ·rw[ah Bool.false_ne_true,ah Bool.false_ne_true];by_cases hE:x.a-k1-M2-M0<q0+q2+q1
  ·rw[ai hE];refine jm rfl fun _=>?_
   refine jm rfl fun l=>?_
   rw[Decidable.not_not,dj aa] at l;refine jm rfl fun u=>?_
   rw[Decidable.not_not,dj aa] at u;refine jm rfl fun h3=>?_
   rw[Decidable.not_not,dj aa] at h3;omega
  rw[ah hE];have C:jM p3 (y.a-k1-M2-M0) q0:=(dj aa).2 aa
  have I:jM p3 (y.a-k1-M2-M0-q0) q2:=(dj aa).2 aa
  have J:jM p3 (y.a-k1-M2-M0-q0-q2) q1:=(dj aa).2 aa
  rw[ah (Decidable.not_not.2 C),ah (Decidable.not_not.2 I),ah (Decidable.not_not.2 J)];clear C I J;have e0:dQ d (y.a-k1-M2-M0) q0=aq (aX d p3) (x.a-k1-M2-M0-q0) q0:=by
   rw[show y.a-k1-M2-M0=8*p3+(x.a-k1-M2-M0) from aa,g _ _ aa aa]
  have B:dQ d (y.a-k1-M2-M0-q0) q2=aq (aX d p3) (x.a-k1-M2-M0-q0-q2) q2:=by
   rw[show y.a-k1-M2-M0-q0=8*p3+(x.a-k1-M2-M0-q0) from aa,g _ _ aa aa]
  have F:dQ d (y.a-k1-M2-M0-q0-q2) q1=aq (aX d p3) (x.a-k1-M2-M0-q0-q2-q1) q1:=by
   rw[show y.a-k1-M2-M0-q0-q2=8*p3+(x.a-k1-M2-M0-q0-q2) from aa,g _ _ aa aa]
  rw[e0,F,B];have D:=Ei U K hw aa h (li:=V0) (o:=q.1) p
   (x':=⟨iR (fj x.out x.ol V0 fun i=>TX (x.lo+i)) (x.ol+V0) (fun _=>0) 0 q.1 V2,x.ol+V0+V2,x.lo+V0,q.2.1,q.2.2.1,q.2.2.2,x.a-k1-M2-M0-q0-q2-q1,w0+aq (aX d p3) (x.a-k1-M2-M0-q0) q0,w1+aq (aX d p3) (x.a-k1-M2-M0-q0-q2-q1) q1,w2+aq (aX d p3) (x.a-k1-M2-M0-q0-q2) q2⟩)
   (y':=⟨q.2.1,q.2.2.1,q.2.2.2,y.S,y.bl,y.lo,y.a-k1-M2-M0-q0-q2-q1,w0+aq (aX d p3) (x.a-k1-M2-M0-q0) q0,w1+aq (aX d p3) (x.a-k1-M2-M0-q0-q2-q1) q1,w2+aq (aX d p3) (x.a-k1-M2-M0-q0-q2) q2⟩)
   rfl rfl rfl k rfl rfl rfl rfl rfl rfl (by dsimp only;omega) rfl rfl rfl
   (Nat.lt_of_lt_of_le (Nat.add_lt_add_left (aY _ _ _) _) n0) (Nat.lt_of_lt_of_le (Nat.add_lt_add_left (aY _ _ _) _) n1) (Nat.lt_of_lt_of_le (Nat.add_lt_add_left (aY _ _ _) _) n2) aa aa aa aa
  refine⟨fun am=>?_,fun ht=>?_⟩
  ·rw[ah aa];exact D.1
  ·by_cases hf:131072<y.bl+(tl-y.lo)
   ·rw[ai hf] at ht;cases ht
   ·rw[ah hf];exact D.2
 ·rw[ai (rfl:true=true),ai (rfl:true=true)];have D:=Ei U K hw aa h (li:=V0) (o:=q.1) p
   (x':=⟨iR (fj x.out x.ol V0 fun i=>TX (x.lo+i)) (x.ol+V0) (fun _=>0) 0 q.1 V2,x.ol+V0+V2,x.lo+V0,q.2.1,q.2.2.1,q.2.2.2,x.a-k1-M2-M0,x.s0,x.s1,x.s2⟩)
   (y':=⟨q.2.1,q.2.2.1,q.2.2.2,y.S,y.bl,y.lo,y.a-k1-M2-M0,y.s0,y.s1,y.s2⟩)
   rfl rfl rfl k rfl rfl rfl rfl rfl rfl (by dsimp only;omega) h.s0 h.s1 h.s2 h.b0 h.b1 h.b2 aa aa aa aa
  refine⟨fun am=>?_,fun ht=>?_⟩
  ·rw[ah aa];exact D.1
  ·by_cases hf:131072<y.bl+(tl-y.lo)
   ·rw[ai hf] at ht;cases ht
   ·rw[ah hf];exact D.2
theorem yT {last:Bool} {x g:SQ} (h:ko F0 F1 F2 d win most b0 TX tl last x = .ok g):x.ol+(tl-x.lo)<=g.ol+(tl-g.lo):=by
 unfold ko at h
 dsimp only at h
 split at h
 ·cases h
 split at h
 ·cases h
 split at h
 ·cases h
 split at h
 ·cases h
 split at h
 ·cases h;dsimp only;omega
 split at h
 ·cases h
 ·cases h;dsimp only;omega
theorem oA:∀(k:Nat) {x g:SQ},ip F0 F1 F2 d win most b0 TX tl k x = .ok g->x.ol+(tl-x.lo)<=g.ol+(tl-g.lo)
 | 0,x,g,h=>by cases h;exact aZ _
 | k+1,x,g,h=>by
  rw[ip] at h
  cases hs:ko F0 F1 F2 d win most b0 TX tl (decide (k=0)) x with
  | op=>rw[hs] at h;cases h
  | wr=>rw[hs] at h;cases h
  | ok i =>
   rw[hs] at h;exact Nat.le_trans (yT hs) (oA k h)
theorem AA (R0:fM 0 T0 F0) (I:fM 1 T1 F1) (J:fM 2 T2 F2) (A:∀i,i<tl->LT i=TX i) (t:wl<=b0) (H:wl=b0\/win<=wl) (l:win<=33554432) (j:wl<=33554432) :
  ∀(k:Nat) {x:SQ} {y:XS},uD F0 F1 F2 p3 b0 wl L x y->vR F0 F1 F2 p3 b0 wl L tl x y
   (match ip F0 F1 F2 (aX d p3) win most b0 TX tl k x with|.op=>.op|.wr=>.wr|.ok g=>if 131072<g.ol+(tl-g.lo)-b0 then .op else .ok g) (dy T0 T1 T2 d p3 L wl LT tl k y)
 | 0,x,y,h=>by
  rw[ip,dy];dsimp only;split
  ·trivial
  ·exact⟨fun _=>rfl,fun _=>h⟩
 | k+1,x,y,h=>by
  have s:=Gp (d:=d) (most:=most) R0 I J A t H l j h (decide (k=0))
  rw[ip,dy];generalize ko F0 F1 F2 (aX d p3) win most b0 TX tl (decide (k=0)) x=r at s ⊢;generalize iI T0 T1 T2 d p3 L wl LT tl (decide (k=0)) y=q at s ⊢
  cases r with
  | op=>trivial
  | wr =>
   have s:q.2=false:=s
   show(ite _ _ _:XS×Bool).2=false
   rw[ah (by rw[s];decide)];exact s
  | ok g =>
   obtain⟨s1,s2⟩:=s;show vR F0 F1 F2 p3 b0 wl L tl x y (match ip F0 F1 F2 (aX d p3) win most b0 TX tl k g with|.op=>.op|.wr=>.wr|.ok g=>if 131072<g.ol+(tl-g.lo)-b0 then .op else .ok g) _
   by_cases p:q.2=true
   ·rw[ai p];have z:=AA R0 I J A t H l j k (s2 p)
    generalize B:ip F0 F1 F2 (aX d p3) win most b0 TX tl k g=r2 at z ⊢
    cases r2 with
    | op=>trivial
    | wr=>exact z
    | ok u =>
     dsimp only at z ⊢;by_cases hb:131072<u.ol+(tl-u.lo)-b0
     ·rw[ai hb];trivial
     ·rw[ah hb] at z ⊢;obtain⟨K,i2⟩:=z;have M:=(s2 p).ol
      have O:=(s2 p).lo
      have:=oA k B
      exact⟨fun _=>K aa,i2⟩
   ·rw[ah p];have C:q.2=false:=by simpa using p
    generalize ip F0 F1 F2 (aX d p3) win most b0 TX tl k g=r2
    cases r2 with
    | op=>trivial
    | wr=>exact C
    | ok u =>
     dsimp only;by_cases hb:131072<u.ol+(tl-u.lo)-b0
     ·rw[ai hb];trivial
     ·rw[ah hb];exact⟨fun F=>absurd (s1 F) p,fun ht=>absurd ht p⟩
end
end Go.Proofs.YtogmacnlpclgkaaGreatDoor
namespace Go.Proofs.YtogmacnlpclgkaaGreatDoor
open Go Go.Eng Go.Pz
set_option maxRecDepth 20000
variable {d:Nat->Nat}
theorem kr (d:Nat->Nat) (a b:Nat):aX (aX d a) b=aX d (a+b):=by
 funext i;unfold aX;rw[Nat.add_assoc]
theorem sY {α β:Type} {c:Prop} [Decidable c] {a b:α×Option β} (g:a.2=none) (hb:¬c->b.2=none):(if c then a else b).2=none:=by
 by_cases h:c
 ·rw[ai h];exact g
 ·rw[ah h];exact hb h
def py (e:CE):Option jR->Prop
 | none=>e.hb=0
 | some t=>e.hb=t.most/\vK t.most t.tab/\∀i,i<2^t.most->e.ht i=t.tab i
theorem xI {n h m b q:Nat} {old g:Nat->Nat} (hd:∀i,d i<256) (j:eN d n h old=some (g,b,q)) (p:q-h<=m):∃t,kR (aX d h) m=some (t,q-h):=by
 unfold eN at j
 cases hw:kN d n h with
 | none=>rw[hw] at j;cases j
 | some W =>
  obtain⟨w,c,r⟩:=W;rw[hw] at j;dsimp only at j;obtain⟨⟨w',tb⟩,ht,e⟩:=Option.map_eq_some_iff.1 j;cases e;have hb:=BR ht
  have l:aX d h 0=d h:=rfl
  unfold kN at hw;split at hw
  ·cases hw
  unfold kR;dsimp only;rw[l];split at hw
  ·rename_i h128
   obtain⟨⟨w1,c1⟩,hf,e⟩:=Option.map_eq_some_iff.1 hw;cases e;have hs:=DZ hd hf
   rw[ah aa,ai h128,ah aa,ai h128,kr,hs];dsimp only;rw[hb];exact⟨_,by show some (_,_)=_;rw[show h+1+d h-h=1+d h from aa]⟩
  ·rename_i h128
   split at hw
   ·cases hw
   cases hw;have k:d_ (fun i=>if i%2=0 then aX d h (1+i/2)/16 else aX d h (1+i/2)%16) (d h-127)=d_ (lI d (h+1) (d h-127)) (d h-127):=by
    refine nS fun i hi=>?_
    unfold lI aX;rw[<- Nat.add_assoc];exact(ai aa).symm
   rw[ah aa,ah h128,ah aa,ah h128,k,hb];exact⟨_,by show some (_,_)=_;rw[show h+1+(d h-127+1)/2-h=1+(d h-127+1)/2 from aa]⟩
theorem B_ {n h m k:Nat} {old:Nat->Nat} {t:jR} (hd:∀i,d i<256) (hs:kR (aX d h) m=some (t,k)) (ht:t.most<=t.tab 0%256) (U:k<m) (Y:h+m<=n) :
  ∃g,eN d n h old=some (g,t.most,h+k)/\vK t.most t.tab/\∀i,i<2^t.most->g i=t.tab i:=by
 have J:aX d h 0=d h:=rfl
 have key:∀{w:Nat->Nat} {c:Nat},c<=255->d_ w c=some t->kN d n h=some (w,c,h+k)->∃g,eN d n h old=some (g,t.most,h+k)/\vK t.most t.tab/\∀i,i<2^t.most->g i=t.tab i:=by
  intro w c y hb q;obtain⟨w',B,z⟩:=yQ y hb ht;obtain⟨O,M,I,k4,C,_⟩:=vx B;refine⟨dP w' (c+1) t.most old (c+1),?_,?_,fun i hi=>?_⟩
  ·unfold eN;rw[q];dsimp only;rw[B]
   rfl
  ·rw[z];exact BS aa M I C
  ·rw[z];obtain⟨j,A,V,F,H⟩:=gq (old:=old) C hi
   rw[H];exact(iY A F _ A (aZ _)).symm
 unfold kR at hs
 dsimp only at hs
 rw[J] at hs
 by_cases p:m=0
 ·rw[ai p] at hs;cases hs
 rw[ah p] at hs
 by_cases l:d h<128
 ·rw[ai l] at hs;by_cases r:m<1+d h
  ·rw[ai r] at hs;cases hs
  rw[ah r,ai l,kr] at hs
  cases q:pv (aX d (h+1)) (d h) with
  | none=>rw[q] at hs;cases hs
  | some W =>
   obtain⟨w,c⟩:=W;rw[q] at hs;dsimp only at hs;obtain⟨K,hb,e⟩:=Option.map_eq_some_iff.1 hs;cases e;have hf:=BP (n:=n) hd aa q
   have y:c<=255:=by
    unfold gI at hf;split at hf
    ·cases hf
    split at hf
    ·cases hf
    split at hf
    ·cases hf
    dsimp only at hf;split at hf
    ·cases hf
    split at hf
    ·cases hf
    exact qj hf
   refine key y hb ?_
   unfold kN;rw[ah aa,ai l,hf];show some (w,c,h+1+d h)=_
   rw[Nat.add_assoc]
 ·rw[ah l] at hs;by_cases r:m<1+(d h-127+1)/2
  ·rw[ai r] at hs;cases hs
  rw[ah r,ah l] at hs;obtain⟨K,hb,e⟩:=Option.map_eq_some_iff.1 hs;cases e;have u:d_ (fun i=>if i%2=0 then aX d h (1+i/2)/16 else aX d h (1+i/2)%16) (d h-127)=d_ (lI d (h+1) (d h-127)) (d h-127):=by
   refine nS fun i hi=>?_
   unfold lI aX;rw[<- Nat.add_assoc];exact(ai aa).symm
  rw[u] at hb;have:=hd h
  refine key aa hb ?_
  unfold kN;rw[ah aa,ah l,ah aa,Nat.add_assoc]
theorem Ej {most:Nat} {tab g:Nat->Nat} (h:vK most tab) (hg:∀i,i<2^most->g i=tab i) {off s:Nat} (j:2<=off) (hb:tab (kQ (aX d off) s most)%256<=s) :
  g (aq d (8*off+s-most) most)=tab (kQ (aX d off) s most):=by
 have r:=h.m11
 rw[hg _ (aY _ _ _)]
 by_cases hs:most<=s
 ·rw[iJ _ _ _ hs,du,show 8*off+s-most=8*off+(s-most) from aa]
 ·obtain⟨k,l⟩:∃k,most=s+k:=⟨most-s,aa⟩
  refine h.pfx _ _ (fC _ _ _) (aY _ _ _) ?_
  have q:=h.le _ (fC (aX d off) s most)
  generalize p:tab (kQ (aX d off) s most)%256=b at *;rw[fx _ _ aa,l,ut,show s+k-b=(s-b)+k from aa,Nat.pow_add,Nat.mul_div_mul_right _ _ (Nat.two_pow_pos k),fx _ _ aa,du];rw[show s-(s-b)=b from aa,show s+k-(s-b+k)=b from aa,show 8*off+s-(s+k)+(s-b+k)=8*off+(0+(s-b)) from aa]
theorem xJ {t:jR} (g:vK t.most t.tab) (d:Nat->Nat) (l:Int):∀k i,pH t d l (i+k)+k<=pH t d l i
 | 0,i=>by rw[Nat.add_zero];omega
 | k+1,i=>by
  have:=xJ g d l k i
  rw[<- Nat.add_assoc,pH];have h:=g.ge _ (fC d (pH t d l (i+k)) t.most)
  omega
theorem pz {t:jR} (q:vK t.most t.tab) {g:Nat->Nat} (hg:∀i,i<2^t.most->g i=t.tab i) {off cs K st:Nat} (p:2<=off) (A:st+2<=off) {T:Nat->Nat} (h:kC t (aX d off) cs K = .ok T) :
  d (off+cs-1)≠0/\0<cs/\dE g t.most d st (dU d (off+cs-1)) K/\∀i,i<K->lW g t.most d (dU d (off+cs-1)) i=T i:=by
 unfold kC at h
 split at h
 ·cases h
 rename_i h1
 have y:aX d off (cs-1)=d (off+cs-1):=by unfold aX;congr 1;omega
 rw[y] at h
 split at h
 ·cases h
 rename_i h2
 split at h
 ·cases h
 rename_i h3
 rw[Decidable.not_not] at h3
 cases h
 have C:dU d (off+cs-1)=8*off+dU (aX d off) (cs-1):=by unfold dU;rw[y];omega
 rw[C]
 generalize z:dU (aX d off) (cs-1)=k at *
 have F:=q.m11
 have j:∀i,i<=K->(K-i:Nat)<=pH t (aX d off) k i:=fun i hi=>by
  have:=xJ q (aX d off) k (K-i) i
  rw[show i+(K-i)=K from aa,h3] at this;omega
 have l:∀i,i<=K->((gz g t.most d (8*off+k) i:Nat):Int)=8*off+pH t (aX d off) k i:=by
  intro i
  induction i with
  | zero=>intro _;show((8*off+k:Nat):Int)=8*off+(k:Nat);omega
  | succ i r =>
   intro hi;have r:=r aa
   have p1:=j i aa
   have p2:=j (i+1) hi
   rw[pH] at p2 ⊢;rw[gz];obtain⟨s,hs⟩:∃s:Nat,pH t (aX d off) k i=s:=⟨(pH t (aX d off) k i).toNat,aa⟩
   rw[hs] at r p1 p2 ⊢;have B:gz g t.most d (8*off+k) i=8*off+s:=aa
   rw[B];unfold fT;rw[Ej q hg p aa];omega
 have u:∀i,i<K->fT g t.most d (gz g t.most d (8*off+k) i)=t.tab (kQ (aX d off) (pH t (aX d off) k i) t.most):=by
  intro i hi;have p1:=j i aa
  have p2:=j (i+1) hi
  have p3:=l i aa
  rw[pH] at p2;obtain⟨s,hs⟩:∃s:Nat,pH t (aX d off) k i=s:=⟨(pH t (aX d off) k i).toNat,aa⟩
  rw[hs] at p1 p2 p3 ⊢;rw[show gz g t.most d (8*off+k) i=8*off+s from aa];unfold fT;exact Ej q hg p aa
 refine⟨h2,aa,fun i hi=>?_,fun i hi=>?_⟩
 ·have p1:=j i aa
  have p3:=l i aa
  omega
 ·unfold lW IW;rw[u i hi]
theorem sZ {t:jR} {off cs K:Nat} (h:kC t (aX d off) cs K = .wr):d (off+cs-1)=0:=by
 unfold kC at h
 split at h
 ·cases h
 split at h
 ·rename_i h1 h2
  unfold aX at h2;rwa[show off+(cs-1)=off+cs-1 from aa] at h2
 split at h<;>cases h
def qn (K:Nat) (r:Ve (Nat->Nat)) (q:Option (Nat->Nat)):Prop :=
 match r with
 | .op=>True
 | .wr=>q=none
 | .ok T=>∃L,q=some L/\∀i,i<K->L i=T i
theorem Ek {t:jR} (k:vK t.most t.tab) {g:Nat->Nat} (hg:∀i,i<2^t.most->g i=t.tab i) {off cs K:Nat} (j:2<=off):qn K (kC t (aX d off) cs K) (xf g t.most d off cs K):=by
 unfold xf
 cases h:kC t (aX d off) cs K with
 | op=>trivial
 | wr=>exact ai (sZ h)
 | ok T =>
  obtain⟨p,r,q,l⟩:=pz (st:=off-2) k hg j aa h
  exact⟨_,by rw[ah p,ai q],l⟩
theorem El {t:jR} (r:vK t.most t.tab) {g:Nat->Nat} (hg:∀i,i<2^t.most->g i=t.tab i) {n off j K:Nat} (hn:off+j<=n):qn K (jX t (aX d off) j K true) (nI g t.most d n off j K):=by
 unfold jX nI
 rw[ah (by decide)]
 by_cases Y:K<6
 ·rw[ai Y];trivial
 rw[ah Y]
 by_cases y:j<6
 ·rw[ai y];by_cases l:n<=off+5
  ·exact ai l
  ·exact(ah l).trans (ai y)
 rw[ah y,ah (show ¬n<=off+5 from aa),ah y,ah (show ¬K<(K+3)/4*3 from aa)]
 dsimp only
 have C:aX d off 0=d off:=rfl
 have O:aX d off 1=d (off+1):=rfl
 have J:aX d off 2=d (off+2):=rfl
 have e3:aX d off 3=d (off+3):=rfl
 have V:aX d off 4=d (off+4):=rfl
 have F:aX d off 5=d (off+5):=rfl
 rw[C,O,J,e3,V,F,kr,kr,kr,kr]
 clear C O J e3 V F
 generalize d off+d (off+1)*256=s1
 generalize d (off+2)+d (off+3)*256=s2
 generalize d (off+4)+d (off+5)*256=s3
 unfold kS
 have z2:∀x,(if j-6<s1+s2+s3 then none else x:Option (Nat->Nat))=none\/s1+s2+s3<=j-6:=fun x=>by
  by_cases h:j-6<s1+s2+s3
  ·exact .inl (ai h)
  ·exact .inr aa
 have k:∀o1 o2 o3 B,d o1=0\/d o2=0\/d o3=0\/d B=0->qS g t.most d (off+5) o1 o2 o3 B K=none:=fun o1 o2 o3 B h=>by unfold qS;rw[ai h]
 by_cases a1:j-6<s1
 ·rw[ai a1];exact ai aa
 rw[ah a1,ah (show ¬(K+3)/4=0 from aa)]
 cases D1:kC t (aX d (off+6)) s1 ((K+3)/4) with
 | op=>trivial
 | wr =>
  show(ite _ _ _:Option (Nat->Nat))=none
  refine(z2 _).elim id fun M=>?_
  rw[ah (show ¬j-6<s1+s2+s3 from aa)]
  ·have:=sZ D1
   exact k _ _ _ _ (.inl (by rw[<- this];congr 1;omega))
 | ok L1 =>
 show qn K (Ve.bind _ _) _
 by_cases U:j-6-s1<s2
 ·rw[ai U];exact ai aa
 rw[ah U,ah (show ¬(K+3)/4=0 from aa)]
 cases D2:kC t (aX d (off+(6+s1))) s2 ((K+3)/4) with
 | op=>trivial
 | wr =>
  show(ite _ _ _:Option (Nat->Nat))=none
  refine(z2 _).elim id fun M=>?_
  rw[ah (show ¬j-6<s1+s2+s3 from aa)]
  ·have:=sZ D2
   exact k _ _ _ _ (.inr (.inl (by rw[<- this];congr 1;omega)))
 | ok L2 =>
 show qn K (Ve.bind _ _) _
 by_cases a3:j-6-s1-s2<s3
 ·rw[ai a3];exact ai aa
 rw[ah a3,ah (show ¬(K+3)/4=0 from aa)]
 cases D3:kC t (aX d (off+(6+s1+s2))) s3 ((K+3)/4) with
 | op=>trivial
 | wr =>
  show(ite _ _ _:Option (Nat->Nat))=none
  refine(z2 _).elim id fun M=>?_
  rw[ah (show ¬j-6<s1+s2+s3 from aa)]
  ·have:=sZ D3
   exact k _ _ _ _ (.inr (.inr (.inl (by rw[<- this];congr 1;omega))))
 | ok L3 =>
 show qn K (Ve.bind _ _) _
 rw[ah (Nat.lt_irrefl _),ah (show ¬j-6<s1+s2+s3 from aa)]
 by_cases p:K-3*((K+3)/4)=0
 ·rw[ai p];trivial
 rw[ah p]
 cases D4:kC t (aX d (off+(6+s1+s2+s3))) (j-6-s1-s2-s3) (K-3*((K+3)/4)) with
 | op=>trivial
 | wr =>
  have:=sZ D4
  exact k _ _ _ _ (.inr (.inr (.inr (by rw[<- this];congr 1;omega))))
 | ok L4 =>
 obtain⟨p1,p2,p3,p4⟩:=pz (st:=off+5-1) r hg aa aa D1
 obtain⟨q1,q2,I,q4⟩:=pz (st:=off+5+s1-1) r hg aa aa D2
 obtain⟨r1,r2,H,W⟩:=pz (st:=off+5+s1+s2-1) r hg aa aa D3
 obtain⟨u1,u2,z,A⟩:=pz (st:=off+5+s1+s2+s3-1) r hg aa aa D4
 rw[show off+6+s1-1=off+5+s1 from aa] at p1 p3 p4
 rw[show off+(6+s1)+s2-1=off+5+s1+s2 from aa] at q1 I q4
 rw[show off+(6+s1+s2)+s3-1=off+5+s1+s2+s3 from aa] at r1 H W
 rw[show off+(6+s1+s2+s3)+(j-6-s1-s2-s3)-1=off+5+s1+s2+s3+(j-6-(s1+s2+s3)) from aa] at u1 z A
 rw[Nat.mul_comm 3] at z A
 unfold qS
 rw[ah (by rintro(h|h|h|h)<;>contradiction),ai ⟨p3,I,H,z⟩]
 refine⟨_,rfl,fun i hi=>?_⟩
 dsimp only
 by_cases q:i<(K+3)/4
 ·rw[ai q,ai q];exact p4 i q
 rw[ah q,ah q]
 by_cases u:i<(K+3)/4+(K+3)/4
 ·rw[ai u,ai u];exact q4 _ aa
 rw[ah u,ah u]
 by_cases b3:i<(K+3)/4+(K+3)/4+(K+3)/4
 ·rw[ai b3,ai b3];exact W _ aa
 rw[ah b3,ah b3]
 exact A _ aa
def vS (r:Ve ((Nat×(Nat->Nat)×Nat)×Option jR)) (q:CE×Option (Nat×Nat×(Nat->Nat))):Prop :=
 match r with
 | .op=>True
 | .wr=>q.2=none
 | .ok ((K,T,o),tr)=>∃L,q.2=some (o,K,L)/\(∀i,i<K->L i=T i)/\py q.1 tr
theorem Em (hd:∀i,d i<256) {e:CE} {V:Option jR} (ht:py e V) (n:Nat):vS (lX V d n) (lits e d n):=by
 unfold lX lits
 by_cases h0:n=0
 ·rw[ai h0,ai h0];rfl
 rw[ah h0,ah h0]
 dsimp only
 by_cases U:d 0%4<2
 ·rw[ai U,ai U];unfold ia;dsimp only;generalize (if d 0/4%4=1 then 2 else if d 0/4%4=3 then 3 else 1)=w;generalize (if d 0/4%4=1 then d 0/16+d 1*16 else if d 0/4%4=3 then d 0/16+d 1*16+d 2*4096 else d 0/8)=K;by_cases p:n<w
  ·rw[ai p,ai p];rfl
  rw[ah p,ah p];by_cases j:131072<K
  ·rw[ai j];trivial
  rw[ah j,ah j];by_cases y:d 0%4=1
  ·rw[ai y,ah (show ¬d 0%4=0 from aa)];by_cases l:n<w+1
   ·rw[ai l,ai (show n<=w from aa)];rfl
   ·rw[ah l,ah (show ¬n<=w from aa)];exact⟨_,rfl,fun _ _=>rfl,ht⟩
  ·rw[ah y,ai (show d 0%4=0 from aa)];by_cases l:n<w+K
   ·rw[ai l,ai l];rfl
   ·rw[ah l,ah l];exact⟨_,rfl,fun _ _=>rfl,ht⟩
 rw[ah U,ah U]
 unfold eJ
 dsimp only
 have hh:3<=(di d).1:=by
  unfold di;dsimp only;split
  ·show 3<=5;decide
  split
  ·show 3<=4;decide
  ·exact aZ _
 generalize di d=H at *
 obtain⟨h,K,m⟩:=H
 dsimp only at hh ⊢
 by_cases p:n<h
 ·rw[ai p,ai p];rfl
 rw[ah p,ah p]
 by_cases j:n<h+m
 ·rw[ai j];refine sY rfl fun _=>?_
  rw[ai j]
 rw[ah j]
 have u:∀(t:jR) (A:CE) (k:Nat),py A (some t)->k<=m->¬131072<K ->
   vS ((if 131072<K\/K=0 then Ve.op else(jX t (aX d (h+k)) (m-k) K (decide (d 0/4%4≠0))).bind fun L=>.ok ((K,L,h+m),some t)):Ve ((Nat×(Nat->Nat)×Nat)×Option jR))
    (A,(nJ A d n (h+k) (m-k) K).map fun L=>(h+m,K,L)):=by
  intro t A k ⟨r1,r2,r3⟩ M z
  by_cases I:131072<K\/K=0
  ·rw[ai I];trivial
  rw[ah I];have B:qn K (jX t (aX d (h+k)) (m-k) K (decide (d 0/4%4≠0))) (nJ A d n (h+k) (m-k) K):=by
   unfold nJ;rw[r1];by_cases hf:d 0/4%4=0
   ·rw[ai hf,decide_eq_false aa];unfold jX;rw[ai rfl];exact Ek r2 r3 aa
   ·rw[ah hf,decide_eq_true hf];exact El r2 r3 aa
  generalize jX t (aX d (h+k)) (m-k) K (decide (d 0/4%4≠0))=r at B ⊢;generalize nJ A d n (h+k) (m-k) K=q at B ⊢
  cases r with
  | op=>trivial
  | wr =>
   have B:q=none:=B
   subst B;rfl
  | ok T =>
   obtain⟨L,rfl,Y⟩:=B;exact⟨L,rfl,Y,r1,r2,r3⟩
 by_cases y:d 0%4=2
 ·rw[ai y,ai y]
  cases hT:kR (aX d h) m with
  | none =>
   refine sY rfl fun _=>?_
   rw[ah j]
   cases hR:eN d n h e.ht with
   | none=>rfl
   | some R =>
    obtain⟨g,b,q⟩:=R;dsimp only;refine sY rfl fun hq=>?_
    ·obtain⟨t,J⟩:=xI (m:=m) hd hR aa
     rw[hT] at J;cases J
  | some tk =>
   obtain⟨t,k⟩:=tk;dsimp only;by_cases l:t.tab 0%256<t.most
   ·rw[ai l];trivial
   rw[ah l];show vS (ite _ _ _) _
   by_cases z:131072<K\/K=0
   ·rw[ai z];trivial
   rw[ah (show ¬131072<K from aa),ah j];by_cases M:k<m
   ·obtain⟨g,g1,g2,g3⟩:=B_ (old:=e.ht) hd hT aa M (by omega:h+m<=n)
    rw[g1];dsimp only;rw[show h+k-h=k from aa,ah (show ¬m<k from aa),ah z];have F:=u t { e with ht:=g,hb:=t.most } k ⟨rfl,g2,g3⟩ aa aa
    rw[ah z] at F;exact F
   ·
    have W:m-k=0:=aa
    rw[ah z,W];unfold jX;by_cases hf:d 0/4%4=0
    ·rw[decide_eq_false aa,ai rfl];unfold kC;rw[ai rfl];trivial
    ·rw[decide_eq_true hf,ah (by decide)]
     by_cases O:K<6
     ·rw[ai O];trivial
     ·rw[ah O,ai aa];show(match eN d n h e.ht with|none=>_|some (g,b,q)=>_:CE×Option (Nat×Nat×(Nat->Nat))).2=none
      cases hR:eN d n h e.ht with
      | none=>rfl
      | some R =>
       obtain⟨g,b,q⟩:=R;dsimp only;refine sY rfl fun hq=>?_
       ·obtain⟨t',J⟩:=xI (m:=m) hd hR aa
        rw[hT] at J;cases J;show Option.map _ _=none
        unfold nJ;rw[ah hf];unfold nI;by_cases C:n<=q+5
        ·rw[ai C];rfl
        ·rw[ah C,ai aa];rfl
 ·rw[ah y,ah y];dsimp only[Ve.bind]
  cases V with
  | none =>
   have ht:e.hb=0:=ht
   refine sY rfl fun _=>?_
   rw[ah j,ai ht]
  | some t =>
   have hb:e.hb≠0:=by
    have:=ht.1
    have:=ht.2.1.m1
    omega
   dsimp only;by_cases z:131072<K\/K=0
   ·rw[ai z];trivial
   rw[ah (show ¬131072<K from aa),ah j,ah hb];exact u t e 0 ht (Nat.zero_le _) aa
def tG (kind:Nat):Option eQ->Option dV->Prop
 | none,none=>True
 | some T,some F=>fM kind T F
 | _,_=>False
def Kg (kind:Nat):Bool:=(List.range (2^(fo kind).log)).all fun p =>
 decide ((Jo kind).getD p (0,0,0,0)=((cg kind ((fo kind).sym p)).1,(cg kind ((fo kind).sym p)).2,(fo kind).bits p,(fo kind).base p))&&decide ((fo kind).sym p<=dF kind)&&decide ((fo kind).base p+2^(fo kind).bits p<=2^(fo kind).log)
theorem yU {kind:Nat} (h:Kg kind=true) (hl:(gh kind).log=(fo kind).log) (i:(fo kind).log<=9):fM kind (gh kind) (fo kind):=by
 have g:∀p,p<2^(fo kind).log->_:=fun p g=>List.all_eq_true.1 h p (List.mem_range.2 g)
 simp only[Bool.and_eq_true,decide_eq_true_eq] at g
 refine⟨hl,i,fun p h=>?_,fun p h=>(g p h).1.2,fun p h=>(g p h).2⟩
 show iH _=_
 rw[(g p h).1.1]
 rfl
theorem AB:∀kind,kind<3->fM kind (gh kind) (fo kind)
 | 0,_=>yU (by decide +kernel) rfl (by decide)
 | 1,_=>yU (by decide +kernel) rfl (by decide)
 | 2,_=>yU (by decide +kernel) rfl (by decide)
def pB (kind p n:Nat) (r:Ve (dV×Nat)) (q:Option (eQ×Nat)):Prop :=
 match r with
 | .op=>True
 | .wr=>q=none
 | .ok (F,k)=>p+k<=n/\∃T,q=some (T,p+k)/\fM kind T F
theorem vT {kind mode n p:Nat} (A:kind<3) (J:mode<4) {t:Option eQ} {s:Option dV} (ht:tG kind t s) (y:p<=n):pB kind p n (fp s kind mode (aX d p) (n-p)) (ep t kind mode d n p):=by
 have g:dD kind<=9:=by unfold dD;split<;>omega
 unfold fp xx ep
 by_cases h0:mode=0
 ·rw[ai h0,ai h0];show pB kind p n (ite _ _ _) _
  rw[ah aa];exact⟨y,_,rfl,AB kind A⟩
 rw[ah h0,ah h0]
 by_cases l:mode=1
 ·rw[ai l,ai l];have z:aX d p 0=d p:=rfl
  rw[z];by_cases i:n<=p
  ·rw[ai (.inl aa),ai i];rfl
  by_cases j:dF kind<d p
  ·rw[ai (.inr j),ah i,ai j];rfl
  rw[ah aa,ah i,ah j];show pB kind p n (ite _ _ _) _
  rw[ah aa];exact⟨aa,_,rfl,rfl,Nat.zero_le _,fun _ _=>rfl,fun _ _=>by dsimp only;omega,fun _ _=>aZ _⟩
 rw[ah l,ah l]
 by_cases i:mode=2
 ·rw[ai i,ai i]
  cases hs:eI false (aX d p) (n-p) (dD kind) (dF kind) 0 with
  | none =>
   show Option.map _ _=none
   cases hq:eI true d n (dD kind) (dF kind) (8*p) with
   | none=>rfl
   | some P =>
    obtain⟨log,sh,c,q⟩:=P;obtain⟨B,C,_⟩:=kq g hq;obtain⟨K,_,h⟩:=sU (M:=n-p) g hq aa
    rw[hs] at h;cases h
  | some P =>
   obtain⟨log,sh,c,q⟩:=P;obtain⟨B,C,I,H,u,r,k⟩:=kq g hs;show pB kind p n (ite _ _ _) _
   by_cases j:mode=2/\n-p-(q+7)/8<2
   ·rw[ai j];trivial
   rw[ah j];have hf:=qX (n:=n) g hs aa
   rw[hf];refine⟨by show p+(q+7)/8<=n;omega,sJ kind log sh,?_,rfl,by show log<=9;omega,fun x hx=>?_,fun x hx=>?_,fun x hx=>?_⟩
   ·show some (sJ kind log sh,(8*p+q+7)/8)=some (sJ kind log sh,p+(q+7)/8)
    rw[show(8*p+q+7)/8=p+(q+7)/8 from aa]
   ·show cX kind _ _ _=cX kind _ _ _
    rw[ju k u r,jT k u r,mN k u r]
    rfl
   ·have:=gU k hx
    show aI sh c (2^log) x<=_
    omega
   ·exact(h_ k hx).2.2
 ·rw[ah i,ah i]
  cases t with
  | none =>
   cases s with
   | none=>rfl
   | some F=>exact ht.elim
  | some T =>
   cases s with
   | none=>exact ht.elim
   | some F =>
    show pB kind p n (ite _ _ _) _
    rw[ah aa];exact⟨y,T,rfl,ht⟩
section
variable {F0 F1 F2:dV} {T0 T1 T2:eQ} {b0 win most tl:Nat} {TX:Nat->Nat}
theorem Ca {last:Bool} {x g:SQ} (h:ko F0 F1 F2 d win most b0 TX tl last x = .ok g):x.ol<=g.ol/\∀i,i<x.ol->g.out i=x.out i:=by
 unfold ko at h
 dsimp only at h
 split at h
 ·cases h
 split at h
 ·cases h
 split at h
 ·cases h
 split at h
 ·cases h
 have key:∀(v o m i:Nat),i<x.ol->iR (fj x.out x.ol v fun i=>TX (x.lo+i)) (x.ol+v) (fun _=>0) 0 o m i=x.out i:=fun v o m i hi=>by
  rw[Az aa,co (.inl hi)]
 split at h
 ·cases h;exact⟨by dsimp only;omega,fun i hi=>key _ _ _ i hi⟩
 split at h
 ·cases h
 ·cases h;exact⟨by dsimp only;omega,fun i hi=>key _ _ _ i hi⟩
theorem qp:∀(k:Nat) {x g:SQ},ip F0 F1 F2 d win most b0 TX tl k x = .ok g->x.ol<=g.ol/\∀i,i<x.ol->g.out i=x.out i
 | 0,x,g,h=>by cases h;exact⟨aZ _,fun _ _=>rfl⟩
 | k+1,x,g,h=>by
  rw[ip] at h
  cases hs:ko F0 F1 F2 d win most b0 TX tl (decide (k=0)) x with
  | op=>rw[hs] at h;cases h
  | wr=>rw[hs] at h;cases h
  | ok r =>
   rw[hs] at h;obtain⟨p,j⟩:=Ca hs;obtain⟨q,l⟩:=qp k h;exact⟨Nat.le_trans p q,fun i hi=>(l i aa).trans (j i hi)⟩
end
structure yV (win:Nat) (out:Nat->Nat) (ol:Nat) (L:Nat->Nat) (wl:Nat):Prop where
 le:wl<=ol
 full:wl=ol\/win<=wl
 lim:wl<=33554432
 is:∀i,i<wl->L i=out (ol-wl+i)
structure yW (e:CE) (s:SS):Prop where
 tree:py e s.tree
 t0:tG 0 e.t0 s.t0
 t1:tG 1 e.t1 s.t1
 t2:tG 2 e.t2 s.t2
 r1:e.r1=s.o1
 r2:e.r2=s.o2
 r3:e.r3=s.o3
 pos:0<s.o1
 lim:s.o1<4294967296
structure En (s s':SS) (S:Nat->Nat) (bl:Nat) (most:Nat):Prop where
 ol:s'.ol=s.ol+bl
 le:bl<=most
 is:∀i,i<bl->S i=s'.out (s.ol+i)
 old:∀i,i<s.ol->s'.out i=s.out i
def AC (s:SS) (e:CE) (most:Nat) (r:Ve SS) (q:XS×Bool):Prop :=
 match r with
 | .op=>True
 | .wr=>q.2=false
 | .ok g=>q.2=true/\yW { e with r1:=q.1.r1,r2:=q.1.r2,r3:=q.1.r3 } g/\En s g q.1.S q.1.bl most
theorem Eo {s:SS} {e:CE} {F0 F1 F2:dV} {T0 T1 T2:eQ} {win most p3 n cnt tl wl:Nat} {L LT TX S0:Nat->Nat} (h0:e.t0=some T0) (I:e.t1=some T1) (O:e.t2=some T2) (R0:fM 0 T0 F0) (K:fM 1 T1 F1) (H:fM 2 T2 F2)
  (Y:py e s.tree) (ad:e.r1=s.o1) (U:e.r2=s.o2) (al:e.r3=s.o3) (p:0<s.o1) (t:s.o1<4294967296) (F:yV win s.out s.ol L wl) (y:win<=33554432) (W:most<=131072) (B:∀i,i<tl->LT i=TX i) (aw:p3<=n) :
  AC s e most (iw s F0 F1 F2 win most (aX d p3) (n-p3) cnt TX tl) (eu e d n p3 cnt L wl LT tl S0):=by
 unfold iw eu
 rw[h0,I,O]
 by_cases hn:n-p3=0
 ·rw[ai hn];trivial
 rw[ah hn]
 have e1:aX d p3 (n-p3-1)=d (n-1):=by unfold aX;congr 1;omega
 rw[e1]
 dsimp only[Option.getD_some]
 by_cases J:d (n-1)=0
 ·rw[ai J,ai J];rfl
 rw[ah J,ah J]
 have e2:dU d (n-1)=8*p3+dU (aX d p3) (n-p3-1):=by unfold dU;rw[e1];omega
 rw[e2,R0.log,K.log,H.log]
 generalize dU (aX d p3) (n-p3-1)=a
 have l0:=R0.lim
 have l1:=K.lim
 have l2:=H.lim
 by_cases ha:a<F0.log+F1.log+F2.log
 ·rw[ai ha];show(ite _ _ _:XS×Bool).2=false
  split
  ·rfl
  rename_i g1
  rw[Decidable.not_not,dj aa] at g1;split
  ·rfl
  rename_i g2
  rw[Decidable.not_not,dj aa] at g2;split
  ·rfl
  rename_i g3
  rw[Decidable.not_not,dj aa] at g3;omega
 rw[ah ha]
 have t1:jM p3 (8*p3+a) F0.log:=(dj aa).2 aa
 have t2:jM p3 (8*p3+a-F0.log) F1.log:=(dj aa).2 aa
 have t3:jM p3 (8*p3+a-F0.log-F1.log) F2.log:=(dj aa).2 aa
 rw[ah (Decidable.not_not.2 t1),ah (Decidable.not_not.2 t2),ah (Decidable.not_not.2 t3)]
 clear t1 t2 t3
 have g:∀a b,b<=25->b<=a->dQ d (8*p3+a) b=aq (aX d p3) (a-b) b:=fun a b I O=>by
  rw[rvV_al2 I,du,show 8*p3+a-b=8*p3+(a-b) from aa]
 rw[g a _ aa aa,show 8*p3+a-F0.log=8*p3+(a-F0.log) from aa,g _ _ aa aa,show 8*p3+(a-F0.log)-F1.log=8*p3+(a-F0.log-F1.log) from aa,g _ _ aa aa,show 8*p3+(a-F0.log-F1.log)-F2.log=8*p3+(a-F0.log-F1.log-F2.log) from aa]
 have hs:uD F0 F1 F2 p3 s.ol wl L ⟨s.out,s.ol,0,s.o1,s.o2,s.o3,a-F0.log-F1.log-F2.log,aq (aX d p3) (a-F0.log) F0.log,aq (aX d p3) (a-F0.log-F1.log) F1.log,aq (aX d p3) (a-F0.log-F1.log-F2.log) F2.log⟩
   ⟨e.r1,e.r2,e.r3,S0,0,0,8*p3+(a-F0.log-F1.log-F2.log),aq (aX d p3) (a-F0.log) F0.log,aq (aX d p3) (a-F0.log-F1.log) F1.log,aq (aX d p3) (a-F0.log-F1.log-F2.log) F2.log⟩ :=
  ⟨rfl,fun i hi=>absurd hi (Nat.not_lt_zero _),F.is,rfl,ad,U,al,p,t,rfl,rfl,rfl,rfl,aY _ _ _,aY _ _ _,aY _ _ _⟩
 have key:=AA (d:=d) (most:=most) R0 K H B F.le F.full y F.lim cnt hs
 generalize k:(⟨s.out,s.ol,0,s.o1,s.o2,s.o3,a-F0.log-F1.log-F2.log,aq (aX d p3) (a-F0.log) F0.log,aq (aX d p3) (a-F0.log-F1.log) F1.log,aq (aX d p3) (a-F0.log-F1.log-F2.log) F2.log⟩:SQ)=x0 at key ⊢
 generalize A:(⟨e.r1,e.r2,e.r3,S0,0,0,8*p3+(a-F0.log-F1.log-F2.log),aq (aX d p3) (a-F0.log) F0.log,aq (aX d p3) (a-F0.log-F1.log) F1.log,aq (aX d p3) (a-F0.log-F1.log-F2.log) F2.log⟩:XS)=y0 at key ⊢
 have z:x0.ol=s.ol:=by rw[<- k]
 have M:x0.lo=0:=by rw[<- k]
 have V:x0.out=s.out:=by rw[<- k]
 have ab:y0.bl=0:=by rw[<- A]
 have am:y0.lo=0:=by rw[<- A]
 generalize hr:ip F0 F1 F2 (aX d p3) win most s.ol TX tl cnt x0=r at key ⊢
 generalize dy T0 T1 T2 d p3 L wl LT tl cnt y0=q at key ⊢
 cases r with
 | op=>trivial
 | wr =>
  have key:q.2=false:=key
  show(ite _ _ _:XS×Bool).2=false
  rw[ai key];exact key
 | ok x =>
  have hm:=oA cnt hr
  obtain⟨o1,o2⟩:=qp cnt hr;rw[z,M] at hm;rw[z] at o1 o2;rw[V] at o2;show AC s e most (ite _ _ _) _
  by_cases j:x.a≠0
  ·rw[ai j];trivial
  rw[ah j];rw[Decidable.not_not] at j;by_cases u:most<x.ol+(tl-x.lo)-s.ol
  ·rw[ai u];trivial
  rw[ah u];dsimp only at key;rw[ah aa] at key;obtain⟨C,h⟩:=key;have C:=C (by rw[ab,am];omega)
  have h:=h C
  rw[ah (by rw[C];decide)]
  have b1:=h.ol
  have b2:=h.lo
  have b3:=h.a
  refine⟨?_,⟨Y,by rw[h0];exact R0,by rw[I];exact K,by rw[O];exact H,h.r1,h.r2,h.r3,h.pos,h.lim⟩,⟨?_,?_,fun i hi=>?_,fun i hi=>?_⟩⟩
  ·show decide (q.1.a%8=0)=true
   rw[decide_eq_true_eq];omega
  ·show x.ol+(tl-x.lo)=s.ol+(q.1.bl+(tl-q.1.lo));omega
  ·show q.1.bl+(tl-q.1.lo)<=most;omega
  ·have hi:i<q.1.bl+(tl-q.1.lo):=hi
   show fj q.1.S q.1.bl (tl-q.1.lo) (fun i=>LT (q.1.lo+i)) i=fj x.out x.ol (tl-x.lo) (fun i=>TX (x.lo+i)) (s.ol+i)
   by_cases l:i<q.1.bl
   ·rw[co (.inl l),co (.inl aa),h.out i l]
   ·rw[dr aa hi,dr aa aa,B _ aa,b2]
    congr 1;omega
  ·show fj x.out x.ol (tl-x.lo) (fun i=>TX (x.lo+i)) i=s.out i
   rw[co (.inl aa)];exact o2 i hi
end Go.Proofs.YtogmacnlpclgkaaGreatDoor
