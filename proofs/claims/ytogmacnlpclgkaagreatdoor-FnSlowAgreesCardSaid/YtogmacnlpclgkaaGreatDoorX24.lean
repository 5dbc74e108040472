/- Texts 24. -/
import Derived.Test.YtogmacnlpclgkaaGreatDoorX23
set_option linter.all false
namespace Go.Proofs.YtogmacnlpclgkaaGreatDoor
open Go Go.Eng Go.Pz
set_option maxRecDepth 20000
variable {G:ao} {d:Nat->Nat}
def qU (kind b m:Nat):Prop:=m<=31/\b+2^m<=4294967296/\(kind=1->m<=1->b<=2)/\(kind=2->b+2^m<=262144)
instance (kind b m:Nat):Decidable (qU kind b m):=by unfold qU;infer_instance
theorem n_.of {kind:Nat} {T:eQ} (i:T.log<=9) (h:∀p,p<2^T.log->qU kind (T.cell p).base (T.cell p).more/\(T.cell p).bits<=9/\(T.cell p).next+2^(T.cell p).bits<=2^T.log):n_ kind T where
 log:=i
 more:=fun p g=>⟨(h p g).1.1,(h p g).1.2.1⟩
 next:=fun p g=>(h p g).2
 off:=fun p g=>(h p g).1.2.2.1
 mat:=fun p g=>(h p g).1.2.2.2
theorem FP:∀s,s<36->qU 0 (cg 0 s).1 (cg 0 s).2:=by decide
theorem FQ:∀s,s<32->qU 1 (cg 1 s).1 (cg 1 s).2:=by decide
theorem FS:∀s,s<53->qU 2 (cg 2 s).1 (cg 2 s).2:=by decide
theorem Dz {kind s:Nat} (g:kind<3) (hs:s<=dF kind):qU kind (cg kind s).1 (cg kind s).2:=by
 match kind,g with
 | 0,_=>exact FP s (Nat.lt_succ_of_le hs)
 | 1,_=>exact FQ s (Nat.lt_succ_of_le hs)
 | 2,_=>exact FS s (Nat.lt_succ_of_le hs)
def xp (kind:Nat) (t:Nat×Nat×Nat×Nat) (n:Nat):Prop:=qU kind t.1 t.2.1/\t.2.2.1<=9/\t.2.2.2+2^t.2.2.1<=n
instance (kind:Nat) (t:Nat×Nat×Nat×Nat) (n:Nat):Decidable (xp kind t n):=by unfold xp;infer_instance
theorem FT:∀p,p<64->xp 0 (zU.getD p (0,0,0,0)) 64:=by decide
theorem FU:∀p,p<32->xp 1 (zV.getD p (0,0,0,0)) 32:=by decide
theorem FV:∀p,p<64->xp 2 (zW.getD p (0,0,0,0)) 64:=by decide
theorem Bw {kind:Nat} (h:kind<3):n_ kind (gh kind):=by
 match kind,h with
 | 0,_=>exact n_.of (by decide) fun p g=>FT p g
 | 1,_=>exact n_.of (by decide) fun p g=>FU p g
 | 2,_=>exact n_.of (by decide) fun p g=>FV p g
theorem Bx {kind s:Nat} (g:kind<3) (hs:s<=dF kind):n_ kind (Dr kind s) :=
 n_.of (Nat.zero_le _) fun _ _=>⟨Dz g hs,Nat.zero_le _,aZ _⟩
theorem Bz {kind log:Nat} {sh:Nat->Int} (h:kind<3) (hl:log<=9) (f:fe sh (dF kind+1) (2^log)):n_ kind (sJ kind log sh) :=
 n_.of hl fun p g=>⟨Dz h (Nat.le_of_lt_succ (gU f g)),Nat.le_trans (h_ f g).2.1 hl,(h_ f g).2.2⟩
theorem xq (kind:Nat):dD kind<=9:=by unfold dD;split<;>omega
theorem qb {t:Option eQ} {kind mode n off o:Nat} {T:eQ} (ht:∀T,t=some T->n_ kind T) (h:ep t kind mode d n off=some (T,o)) (g:kind<3):n_ kind T:=by
 unfold ep at h
 split at h
 ·cases h;exact Bw g
 split at h
 ·split at h
  ·cases h
  split at h
  ·cases h
  ·cases h;exact Bx g aa
 split at h
 ·obtain⟨⟨log,sh,c,q⟩,i,e⟩:=Option.map_eq_some_iff.1 h;cases e;obtain⟨p1,p2,p3,p4⟩:=pd i (xq kind)
  exact Bz g (Nat.le_trans p2 (xq kind)) p3
 ·obtain⟨T',j,e⟩:=Option.map_eq_some_iff.1 h
  cases e;exact ht T j
structure rf (e:CE):Prop where
 t0:∀T,e.t0=some T->n_ 0 T
 t1:∀T,e.t1=some T->n_ 1 T
 t2:∀T,e.t2=some T->n_ 2 T
 r:e.r1<4294967296/\e.r2<4294967296/\e.r3<4294967296
theorem rf.ini (e:CE):rf e.ini:=⟨fun _ h=>(by cases h),fun _ h=>(by cases h),fun _ h=>(by cases h),(by show 1<_;decide),(by show 4<_;decide),(by show 8<_;decide)⟩
theorem BA {e:CE} {n off md:Nat} (h:rf e) (j:off<=n):rf (ig e d n off md).1/\∀o,(ig e d n off md).2=some o->o<=n/\∃T0 T1 T2,(ig e d n off md).1.t0=some T0/\(ig e d n off md).1.t1=some T1/\(ig e d n off md).1.t2=some T2:=by
 unfold ig
 cases h0:ep e.t0 0 (md/64%4) d n off with
 | none=>exact⟨h,fun o g=>by cases g⟩
 | some q =>
  obtain⟨T0,o1⟩:=q;have k0:=qb h.t0 h0 (by decide)
  have t:=kP h0 j (by decide)
  have k:∀T,some T0=some T->n_ 0 T:=fun T i=>by cases i;exact k0
  dsimp only
  cases h1:ep e.t1 1 (md/16%4) d n o1 with
  | none=>exact⟨⟨k,h.t1,h.t2,h.r⟩,fun o g=>by cases g⟩
  | some p =>
   obtain⟨T1,o2⟩:=p;have l:=qb h.t1 h1 (by decide)
   have z:=kP h1 t (by decide)
   have s1:∀T,some T1=some T->n_ 1 T:=fun T i=>by cases i;exact l
   dsimp only
   cases h2:ep e.t2 2 (md/4%4) d n o2 with
   | none=>exact⟨⟨k,s1,h.t2,h.r⟩,fun o g=>by cases g⟩
   | some u =>
    obtain⟨T2,o3⟩:=u;have y:=qb h.t2 h2 (by decide)
    have l2:=kP h2 z (by decide)
    exact⟨⟨k,s1,fun T i=>by cases i;exact y,h.r⟩,fun o g=>by cases g;exact⟨l2,T0,T1,T2,rfl,rfl,rfl⟩⟩
theorem FW {n off c o:Nat} (hd:∀i,d i<256) (h:nK d n off=some (c,o)):o<=n/\c<=2^20:=by
 have k:=hd off
 have g:=hd (off+1)
 have j:=hd (off+2)
 unfold nK at h
 split at h
 ·cases h
 split at h
 ·cases h;omega
 split at h
 ·split at h
  ·cases h
  ·cases h;omega
 split at h
 ·cases h
 ·cases h;omega
theorem uq {e:CE} {n off:Nat} (hd:∀i,d i<256) (h:rf e):rf (cU e d n off).1/\∀c o,(cU e d n off).2=some (c,o)->o<=n/\c<=2^20/\(c≠0->∃T0 T1 T2,(cU e d n off).1.t0=some T0/\(cU e d n off).1.t1=some T1/\(cU e d n off).1.t2=some T2):=by
 unfold cU
 cases hh:nK d n off with
 | none=>exact⟨h,fun c o g=>by cases g⟩
 | some r =>
  obtain⟨c,o⟩:=r;have hl:=FW hd hh
  dsimp only;split
  ·exact⟨h,fun c o g=>by cases g;exact⟨hl.1,by decide,fun l=>absurd rfl l⟩⟩
  split
  ·exact⟨h,fun c o g=>by cases g⟩
  split
  ·exact⟨h,fun c o g=>by cases g⟩
  ·have j:=BA (d:=d) (n:=n) (off:=o+1) (md:=d o) h aa
   refine⟨j.1,fun p t g=>?_⟩
   obtain⟨q,k,e⟩:=Option.map_eq_some_iff.1 g;cases e;exact⟨(j.2 _ k).1,hl.2,fun _=>(j.2 _ k).2⟩
theorem nP {S:Nat->Nat} {bl wl o:Nat} {L L':Nat->Nat} (h:∀i,i<wl->L i=L' i) (g:¬(bl<o/\wl<o-bl)):∀k,iR S bl L wl o k=iR S bl L' wl o k
 | 0=>rfl
 | k+1=>by
  rw[iR,iR,nP h g k];split
  ·rw[h _ aa]
  ·rfl
section
variable {T0 T1 T2:eQ} {st wl:Nat} {L L' LT:Nat->Nat} {ll:Nat}
theorem yB (h:∀i,i<wl->L i=L' i) (x:XS) (li o ml:Nat):n8 L wl LT ll x li o ml=n8 L' wl LT ll x li o ml:=by
 unfold n8
 by_cases l:ll-x.lo<li
 ·rw[ai l,ai l]
 rw[ah l,ah l]
 dsimp only
 by_cases j:ml=0
 ·rw[ai j,ai j]
 rw[ah j,ah j]
 by_cases k:o=0
 ·rw[ai k,ai k]
 rw[ah k,ah k]
 by_cases g:x.bl+li<o/\wl<o-(x.bl+li)
 ·rw[ai g,ai g]
 rw[ah g,ah g,nP h g]
theorem vA (h:∀i,i<wl->L i=L' i) (last:Bool) (x:XS):iI T0 T1 T2 d st L wl LT ll last x=iI T0 T1 T2 d st L' wl LT ll last x:=by
 unfold iI
 simp only[yB h]
theorem pp (h:∀i,i<wl->L i=L' i):∀(k:Nat) (x:XS),dy T0 T1 T2 d st L wl LT ll k x=dy T0 T1 T2 d st L' wl LT ll k x
 | 0,_=>rfl
 | k+1,x=>by rw[dy,dy,vA h,pp h k]
theorem vB (h:∀i,i<wl->L i=L' i) (e:CE) (n off cnt:Nat) (S:Nat->Nat):eu e d n off cnt L wl LT ll S=eu e d n off cnt L' wl LT ll S:=by
 unfold eu
 simp only[pp h]
end
end Go.Proofs.YtogmacnlpclgkaaGreatDoor
namespace Go.Proofs.YtogmacnlpclgkaaGreatDoor
open Go Go.Eng Go.Pz
attribute [local irreducible] RO J av aO
set_option maxRecDepth 20000
variable {G:ao}
def bG (dat:Nat->Nat) (N:Nat) (p:PS CE) (size:Nat):PS CE×Bool :=
 let k:=min size (N-p.pos)
 let p1:PS CE:={ p with pos:=p.pos+k }
 if k<size then(p1,false)
 else
  let d:=fun i=>dat (p.pos+i)
  let p2:PS CE:={ p1 with bl:=0 }
  let a:=lits p.e d size
  match a.2 with
  | none=>({ p2 with e:=a.1 },false)
  | some (o,K,LT) =>
   let b:=cU a.1 d size o
   match b.2 with
   | none=>({ p2 with e:=b.1 },false)
   | some (c,o2) =>
    if c=0 then
     if o2<size then({ p2 with e:=b.1 },false)
     else({ p2 with e:=b.1,S:=fj p.S 0 K LT,bl:=K },true)
    else
     let r:=eu b.1 d size o2 c p.L p.wl LT K p.S
     ({ p2 with e:={ b.1 with r1:=r.1.r1,r2:=r.1.r2,r3:=r.1.r3 },S:=r.1.S,bl:=r.1.bl },r.2)
theorem yC (dat:Nat->Nat) (N:Nat) (p:PS CE) (size:Nat):(bG dat N p size).1.pos=p.pos+min size (N-p.pos):=by
 unfold bG
 dsimp only
 split
 ·rfl
 split
 ·rfl
 ·split
  ·rfl
  ·split
   ·split<;>rfl
   ·rfl
theorem fh (dat:Nat->Nat) (N:Nat):gP N (bG dat N):=fun p size _=>by rw[yC];omega
theorem qc (e:CE) (d:Nat->Nat) (n:Nat):(lits e d n).1.t0=e.t0/\(lits e d n).1.t1=e.t1/\(lits e d n).1.t2=e.t2/\(lits e d n).1.r1=e.r1/\(lits e d n).1.r2=e.r2/\(lits e d n).1.r3=e.r3:=by
 unfold lits
 split
 ·exact⟨rfl,rfl,rfl,rfl,rfl,rfl⟩
 split
 ·exact⟨rfl,rfl,rfl,rfl,rfl,rfl⟩
 unfold eJ
 dsimp only
 split
 ·exact⟨rfl,rfl,rfl,rfl,rfl,rfl⟩
 split
 ·exact⟨rfl,rfl,rfl,rfl,rfl,rfl⟩
 split
 ·exact⟨rfl,rfl,rfl,rfl,rfl,rfl⟩
 split
 ·split
  ·exact⟨rfl,rfl,rfl,rfl,rfl,rfl⟩
  ·split<;>exact⟨rfl,rfl,rfl,rfl,rfl,rfl⟩
 ·split<;>exact⟨rfl,rfl,rfl,rfl,rfl,rfl⟩
theorem vC {e:CE} {d:Nat->Nat} {n o K:Nat} {LT:Nat->Nat} (h:(lits e d n).2=some (o,K,LT)):o<=n/\K<=131072:=by
 unfold lits at h
 split at h
 ·cases h
 split at h
 ·have h:ia d n=some (o,K,LT):=h
  unfold ia at h;dsimp only at h;generalize (if d 0/4%4=1 then 2 else if d 0/4%4=3 then 3 else 1)=w at h;generalize (if d 0/4%4=1 then d 0/16+d 1*16 else if d 0/4%4=3 then d 0/16+d 1*16+d 2*4096 else d 0/8)=z at h;split at h
  ·cases h
  split at h
  ·cases h
  split at h
  ·split at h
   ·cases h
   ·cases h;omega
  ·split at h
   ·cases h
   ·cases h;omega
 ·unfold eJ at h;dsimp only at h;split at h
  ·cases h
  split at h
  ·cases h
  split at h
  ·cases h
  split at h
  ·split at h
   ·cases h
   ·split at h
    ·cases h
    ·obtain⟨L,_,e⟩:=Option.map_eq_some_iff.1 h
     cases e;omega
  ·split at h
   ·cases h
   ·obtain⟨L,_,e⟩:=Option.map_eq_some_iff.1 h
    cases e;omega
theorem qV (e:CE) (d:Nat->Nat) (n off:Nat):(cU e d n off).1.hb=e.hb/\(cU e d n off).1.ht=e.ht/\(cU e d n off).1.r1=e.r1/\(cU e d n off).1.r2=e.r2/\(cU e d n off).1.r3=e.r3:=by
 unfold cU
 split
 ·exact⟨rfl,rfl,rfl,rfl,rfl⟩
 split
 ·exact⟨rfl,rfl,rfl,rfl,rfl⟩
 split
 ·exact⟨rfl,rfl,rfl,rfl,rfl⟩
 split
 ·exact⟨rfl,rfl,rfl,rfl,rfl⟩
 unfold ig
 dsimp only
 split
 ·exact⟨rfl,rfl,rfl,rfl,rfl⟩
 split
 ·exact⟨rfl,rfl,rfl,rfl,rfl⟩
 split<;>exact⟨rfl,rfl,rfl,rfl,rfl⟩
theorem nd.view {j:Option Addr} {n k:Nat} {D:Nat->Nat} {sm M:ao} (h:nd (.slice j n k) n D sm) (hs:∀p∈sm,p∈M):aU M j n k D:=by
 rcases h with⟨g,_,_⟩|⟨b,cap,B,g,l,t,u,r,q⟩
 ·cases g;exact⟨aZ _,.inl ⟨rfl,rfl,rfl⟩⟩
 ·cases g;exact⟨r,.inr ⟨b,0,B,rfl,hs _ (by rw[l];exact List.mem_cons_self),fun _=>aa,fun i hi=>by rw[Nat.zero_add,q i hi]⟩⟩
def qd (v:Value) (m:ao):Prop:=(v = .slice none 0 0/\m=[])\/∃b l c B,v = .slice (bi b) l c/\m=[(b,B)]/\l<=c/\c<=B.n/\B.fr=(0,0)
theorem qd.cut {v:Value} {m:ao} (h:qd v m) (D:Nat->Nat):∃j g vc,v = .slice j g vc/\nd (.slice j 0 vc) 0 D m/\0<=g/\g<=vc:=by
 rcases h with⟨rfl,rfl⟩|⟨b,l,c,B,rfl,rfl,p,k,q⟩
 ·exact⟨none,0,0,rfl,.inl ⟨rfl,rfl,rfl⟩,aZ _,aZ _⟩
 ·exact⟨some ⟨b,0,none⟩,l,c,rfl,.inr ⟨b,c,B,rfl,rfl,q,k,Nat.zero_le _,fun i hi=>absurd hi (Nat.not_lt_zero _)⟩,Nat.zero_le _,p⟩
theorem qd.of_lt {v:Value} {n:Nat} {D:Nat->Nat} {m:ao} (h:nd v n D m):qd v m:=by
 rcases h with⟨i,_,g⟩|⟨b,c,B,i,g,l,j,k,p⟩
 ·exact .inl ⟨i,g⟩
 ·exact .inr ⟨b,n,c,B,i,g,k,j,l⟩
theorem qd.slIn {v:Value} {m:ao} (h:qd v m):wJ v m:=by
 rcases h with⟨h,_⟩|⟨b,l,c,B,j,g,p,i,k⟩
 ·exact .inl h
 ·exact .inr ⟨b,l,c,B,j,by rw[g];exact List.mem_cons_self,p,i,k⟩
theorem qd.of_in {v:Value} {m:ao} (h:wJ v m):∃g jk,qd v g/\m.Perm (g++jk):=by
 rcases h with h|⟨b,l,c,B,p,i,j,k,q⟩
 ·exact⟨[],m,.inl ⟨h,rfl⟩,.refl _⟩
 ·obtain⟨s,t,rfl⟩:=List.append_of_mem i;exact⟨[(b,B)],s++t,.inr ⟨b,l,c,B,p,rfl,j,k,q⟩,List.perm_middle⟩
def jd (e:CE) (x:RX) (em:ao):Prop :=
 ∃cl cS h p g k l j fm jk,em.Perm (h++(p++(g++(k++(l++(j++(fm++jk)))))))/\fS x.cb cl cS h/\cl<=2^17/\(∀i,cS i<256)/\qd x.lit p/\JO x.ht e.hb e.ht g/\x.hb=e.hb /\
  yz 0 x.st0 x.tb0 x.sb0 e.t0 k/\yz 1 x.st1 x.tb1 x.sb1 e.t1 l/\yz 2 x.st2 x.tb2 x.sb2 e.t2 j/\Bt x.fs fm/\(x.r1=e.r1/\x.r2=e.r2/\x.r3=e.r3)/\rf e
theorem yz.clear {kind:Nat} {st tb:Value} {sb:Nat} {t:Option eQ} {m:ao} (h:yz kind st tb sb t m):∃bm g,m=bm++g/\yz kind (.slice none 0 0) tb sb none bm:=by
 obtain⟨bm,g,rfl,i,_⟩:=h
 exact⟨bm,g,rfl,bm,[],by rw[List.append_nil],i,rfl,rfl⟩
theorem mJ (e:CE) (x:RX) (em:ao) (h:jd e x em):jd e.ini x.ini em:=by
 obtain⟨cl,cS,u,V,J,m0,m1,W,fm,jk,A,r,I,z,B,K,Y,F,M,i,j,y,p⟩:=h
 obtain⟨a0,b0,rfl,k0⟩:=F.clear
 obtain⟨a1,q,rfl,l⟩:=M.clear
 obtain⟨U,H,rfl,O⟩:=i.clear
 refine⟨cl,cS,u,V,J,a0,a1,U,fm,b0++(q++(H++jk)),A.trans an,r,I,z,B,?_,rfl,k0,l,O,j,⟨rfl,rfl,rfl⟩,rf.ini e⟩
 rcases K with⟨k,t,g,C⟩|⟨tb,k,t,g⟩
 ·exact .inl ⟨k,rfl,g,C⟩
 ·exact .inr ⟨tb,k,fun h=>absurd rfl h,g⟩
theorem ns:jd CE.zero RS.zero.ext [] :=
 ⟨0,fun _=>0,[],[],[],[],[],[],[],[],.refl _,.inl ⟨rfl,rfl,rfl,fun _=>rfl⟩,Nat.zero_le _,fun _=>by show 0<256;omega,.inl ⟨rfl,rfl⟩,.inl ⟨rfl,rfl,rfl,rfl⟩,rfl,
  ⟨[],[],rfl,.inl ⟨rfl,rfl⟩,rfl,rfl⟩,⟨[],[],rfl,.inl ⟨rfl,rfl⟩,rfl,rfl⟩,⟨[],[],rfl,.inl ⟨rfl,rfl⟩,rfl,rfl⟩,.inl ⟨rfl,rfl⟩,⟨rfl,rfl,rfl⟩,
  ⟨fun _ h=>(by cases h),fun _ h=>(by cases h),fun _ h=>(by cases h),(by show 0<_;decide),(by show 0<_;decide),(by show 0<_;decide)⟩⟩
def bN.addC (fm:ao) (S:bN G):bN (fm++G) where
 eb:=S.eb
 eo:=S.eo
 ub:=S.ub
 uo:=S.uo
 E0:=S.E0
 E1:=S.E1
 U0:=S.U0
 U1:=S.U1
 e0:=List.mem_append.2 (.inr S.e0)
 e0n:=S.e0n
 e0g:=S.e0g
 e1:=List.mem_append.2 (.inr S.e1)
 e1f:=S.e1f
 u0:=List.mem_append.2 (.inr S.u0)
 u0n:=S.u0n
 u0g:=S.u0g
 u1:=List.mem_append.2 (.inr S.u1)
 u1f:=S.u1f
 ne:=S.ne
theorem sN.of {kind:Nat} {st tb:Value} {sb:Nat} {T:eQ} {m M:ao} (h:yz kind st tb sb (some T) m) (j:∀p∈m,p∈M):sN M st sb T:=by
 obtain⟨r,t,rfl,u,g,b,c,B,i,l,q,k,_⟩:=h
 exact⟨g,b,c,B,i,j _ l,q,k⟩
theorem ij.mono {M:ao} {gid:Nat} {l:List (Nat×Nat)} (h:ij G gid l) (g:∀p∈G,p∈M):ij M gid l:=by
 obtain⟨j,q,lo,z,A,u,i,k,t,y,r⟩:=h
 exact⟨j,q,lo,z,A,g _ u,i,k,g _ t,y,r⟩
theorem nF.view {v:Value} {z j wl:Nat} {L:Nat->Nat} {t M:ao} (h:nF v z j L wl t) (y:∀p∈t,p∈M):∃r g ph,v = .slice r wl g/\aU M r wl g ph/\j<=wl/\wl<=z/\∀i,i<wl->L i=jP ph j wl i:=by
 obtain⟨ph,C,k,l,I,q⟩:=h
 rcases C with⟨rfl,F,rfl⟩|⟨b,o,cap,B,rfl,rfl,H,J,u,A⟩
 ·have:wl=0:=aa
  subst this;exact⟨none,0,ph,rfl,⟨aZ _,.inl ⟨rfl,rfl,rfl⟩⟩,l,k,q⟩
 ·exact⟨some ⟨b,o,none⟩,cap,ph,rfl,⟨u,.inr ⟨b,o,B,rfl,y _ (by simp),fun _=>aa,fun i hi=>A i aa⟩⟩,l,k,q⟩
end Go.Proofs.YtogmacnlpclgkaaGreatDoor
namespace Go.Proofs.YtogmacnlpclgkaaGreatDoor
open Go Go.Eng Go.Pz
set_option maxRecDepth 20000
variable {d:Nat->Nat}
theorem DA {hb:Nat} {ht:Nat->Nat} (h:x7 hb ht) (a i:Nat):lW ht hb d a i<256:=h.sym _ (aY _ _ _)
theorem Ab {e:CE} {n off g K:Nat} {LT:Nat->Nat} (j:x7 e.hb e.ht) (h:nJ e d n off g K=some LT):∀i,LT i<256:=by
 intro i
 unfold nJ at h
 split at h
 ·unfold xf at h;split at h
  ·cases h
  split at h
  ·cases h;exact DA j _ _
  ·cases h
 ·unfold nI qS at h;split at h
  ·cases h
  split at h
  ·cases h
  split at h
  ·cases h
  dsimp only at h
  repeat' split at h
  all_goals first|(cases h;done)|skip
  all_goals
   cases h;dsimp only
   repeat' split
   all_goals exact DA j _ _
theorem Ac {e:CE} {n o K:Nat} {LT:Nat->Nat} (hd:∀i,d i<256) (l:e.hb≠0->x7 e.hb e.ht) (h:(lits e d n).2=some (o,K,LT)):∀i,LT i<256:=by
 intro i
 unfold lits at h
 split at h
 ·cases h
 split at h
 ·have h:ia d n=some (o,K,LT):=h
  unfold ia at h;dsimp only at h;generalize (if d 0/4%4=1 then 2 else if d 0/4%4=3 then 3 else 1)=w at h;generalize (if d 0/4%4=1 then d 0/16+d 1*16 else if d 0/4%4=3 then d 0/16+d 1*16+d 2*4096 else d 0/8)=z at h;split at h
  ·cases h
  split at h
  ·cases h
  split at h
  ·split at h
   ·cases h
   ·cases h;exact hd _
  ·split at h
   ·cases h
   ·cases h;exact hd _
 ·unfold eJ at h;dsimp only at h;split at h
  ·cases h
  split at h
  ·cases h
  split at h
  ·cases h
  split at h
  ·split at h
   ·cases h
   ·rename_i g b q hq
    split at h
    ·cases h
    ·obtain⟨L,j,k⟩:=Option.map_eq_some_iff.1 h;cases k;exact Ab (e:={ e with ht:=g,hb:=b }) (n9 hd hq).1 j i
  ·split at h
   ·cases h
   ·rename_i hz
    obtain⟨L,j,k⟩:=Option.map_eq_some_iff.1 h;cases k;exact Ab (l hz) j i
theorem qW {T T':Nat->Nat} {n k:Nat} (h:∀i,T i<256) (g:∀i,T' i<256):∀i,fj T n k T' i<256:=fun i=>by unfold fj;split;exact g _;exact h _
theorem sO {T L:Nat->Nat} {bl wl o:Nat} (h:∀i,T i<256) (g:∀i,L i<256):∀k i,iR T bl L wl o k i<256
 | 0,i=>h i
 | k+1,i=>by
  rw[iR];unfold cV;split
  ·split
   ·exact g _
   ·exact sO h g k _
  ·exact sO h g k i
structure XI (T0 T1 T2:eQ) (x:XS):Prop where
 s:∀i,x.S i<256
 bl:x.bl<=2^20
 r:x.r1<4294967296/\x.r2<4294967296/\x.r3<4294967296
 t0:x.s0<2^T0.log
 t1:x.s1<2^T1.log
 t2:x.s2<2^T2.log
theorem FX {more v li j p q:Nat} (h:v<4294967296) (u:more<=1->v<=3) (k:j<4294967296) (i:p<4294967296) (r:q<4294967296) :
  (mI more v li j p q).2.1<4294967296/\(mI more v li j p q).2.2.1<4294967296/\(mI more v li j p q).2.2.2<4294967296:=by
 have g:(j+4294967295)%4294967296<4294967296:=Nat.mod_lt _ aa
 unfold mI
 generalize (j+4294967295)%4294967296=w at g ⊢
 by_cases l:1<more
 ·rw[ai l];exact⟨h,k,i⟩
 ·have y:=u aa
  rw[ah l];dsimp only;generalize (v+if li=0 then 1 else 0)=t;split
  ·exact⟨k,i,r⟩
  split
  ·exact⟨i,k,r⟩
  split
  ·exact⟨r,k,i⟩
  split
  ·exact⟨g,k,i⟩
  ·exact⟨k,i,r⟩
section
variable {T0 T1 T2:eQ} {st wl ll:Nat} {L LT:Nat->Nat}
theorem xr (t:∀i,L i<256) (j:∀i,LT i<256) {x:XS} (hx:XI T0 T1 T2 x) {li o l:Nat} (q:l<=262144) (hb:x.bl+(ll-x.lo)<=131072):XI T0 T1 T2 (n8 L wl LT ll x li o l).1:=by
 have p:=qW (n:=x.bl) (k:=li) hx.s (T':=fun i=>LT (x.lo+i)) (fun i=>j _)
 unfold n8
 split
 ·exact hx
 have h:x.bl+li<=2^20:=aa
 have g:XI T0 T1 T2 { x with S:=fj x.S x.bl li fun i=>LT (x.lo+i),bl:=x.bl+li,lo:=x.lo+li }:=⟨p,h,hx.r,hx.t0,hx.t1,hx.t2⟩
 dsimp only
 split
 ·exact g
 split
 ·exact g
 split
 ·exact g
 ·exact⟨sO p t _,by dsimp only;omega,hx.r,hx.t0,hx.t1,hx.t2⟩
theorem yD (B:n_ 0 T0) (o1:n_ 1 T1) (o2:n_ 2 T2) (t:∀i,L i<256) (j:∀i,LT i<256) (last:Bool) {x:XS} (hx:XI T0 T1 T2 x):XI T0 T1 T2 (iI T0 T1 T2 d st L wl LT ll last x).1:=by
 unfold iI
 split
 ·exact hx
 rename_i hfit
 dsimp only
 split
 ·exact hx
 split
 ·exact hx
 split
 ·exact hx
 have J:=o1.more _ hx.t1
 have I:=o2.mat _ hx.t2 rfl
 have f1:=o1.off _ hx.t1 rfl
 have w1:=eS d x.a (T1.cell x.s1).more
 have w2:=eS d (x.a-(T1.cell x.s1).more) (T2.cell x.s2).more
 have z:=(B.next _ hx.t0).2
 have C:=(o1.next _ hx.t1).2
 have H:=(o2.next _ hx.t2).2
 generalize T0.cell x.s0=z0 at *
 generalize T1.cell x.s1=z1 at *
 generalize T2.cell x.s2=z2 at *
 have l:z1.more<=1->z1.base+dQ d x.a z1.more<=3:=fun h=>by
  have:=f1 h
  have p:2^z1.more<=2^1:=Nat.pow_le_pow_right aa h
  omega
 have u:=FX (more:=z1.more) (v:=z1.base+dQ d x.a z1.more) (li:=z0.base+dQ d (x.a-z1.more-z2.more) z0.more) aa l hx.r.1 hx.r.2.1 hx.r.2.2
 generalize mI z1.more (z1.base+dQ d x.a z1.more) (z0.base+dQ d (x.a-z1.more-z2.more) z0.more) x.r1 x.r2 x.r3=q at *
 generalize x.a-z1.more-z2.more-z0.more=a at *
 have g:z2.base+dQ d (x.a-z1.more) z2.more<=262144:=aa
 have k:XI T0 T1 T2 { x with r1:=q.2.1,r2:=q.2.2.1,r3:=q.2.2.2,a:=a }:=⟨hx.s,hx.bl,u,hx.t0,hx.t1,hx.t2⟩
 split
 ·exact xr t j k g (by dsimp only;omega)
 split
 ·exact k
 split
 ·exact k
 split
 ·exact k
 ·have F:=eS d a z0.bits
  have A:=eS d (a-z0.bits) z2.bits
  have y:=eS d (a-z0.bits-z2.bits) z1.bits
  have p:XI T0 T1 T2 { x with r1:=q.2.1,r2:=q.2.2.1,r3:=q.2.2.2,a:=a-z0.bits-z2.bits-z1.bits,s0:=z0.next+dQ d a z0.bits,s2:=z2.next+dQ d (a-z0.bits) z2.bits,s1:=z1.next+dQ d (a-z0.bits-z2.bits) z1.bits }:=⟨hx.s,hx.bl,u,Nat.lt_of_lt_of_le (Nat.add_lt_add_left F _) z,Nat.lt_of_lt_of_le (Nat.add_lt_add_left y _) C,Nat.lt_of_lt_of_le (Nat.add_lt_add_left A _) H⟩
  exact xr t j p g (by dsimp only;omega)
theorem sP (j:n_ 0 T0) (o1:n_ 1 T1) (o2:n_ 2 T2) (l:∀i,L i<256) (g:∀i,LT i<256):∀(k:Nat) {x:XS},XI T0 T1 T2 x->XI T0 T1 T2 (dy T0 T1 T2 d st L wl LT ll k x).1
 | 0,_,h=>h
 | k+1,x,h=>by
  rw[dy];have p:=yD (d:=d) (st:=st) (wl:=wl) (ll:=ll) j o1 o2 l g (decide (k=0)) h
  split
  ·exact sP j o1 o2 l g k p
  ·exact p
end
theorem sQ (kind:Nat):n_ kind eQ.none:=n_.of (Nat.zero_le _) fun _ _=>⟨⟨Nat.zero_le _,by show 0+2^0<=_;decide,fun _ _=>Nat.zero_le _,fun _=>by show 0+2^0<=_;decide⟩,Nat.zero_le _,aZ _⟩
theorem lK {e:CE} {n off cnt wl ll:Nat} {L LT T:Nat->Nat} (g:rf e) (q:∀i,L i<256) (l:∀i,LT i<256) (k:∀i,T i<256) (p:ll<=131072) :
  (∀i,(eu e d n off cnt L wl LT ll T).1.S i<256)/\(eu e d n off cnt L wl LT ll T).1.bl<=2^30/\(eu e d n off cnt L wl LT ll T).1.r1<4294967296/\(eu e d n off cnt L wl LT ll T).1.r2<4294967296/\(eu e d n off cnt L wl LT ll T).1.r3<4294967296:=by
 have u:n_ 0 (e.t0.getD eQ.none):=by
  cases h:e.t0 with
  | none=>exact sQ 0
  | some t=>exact g.t0 t h
 have o1:n_ 1 (e.t1.getD eQ.none):=by
  cases h:e.t1 with
  | none=>exact sQ 1
  | some t=>exact g.t1 t h
 have o2:n_ 2 (e.t2.getD eQ.none):=by
  cases h:e.t2 with
  | none=>exact sQ 2
  | some t=>exact g.t2 t h
 unfold eu
 dsimp only
 generalize e.t0.getD eQ.none=T0 at *
 generalize e.t1.getD eQ.none=T1 at *
 generalize e.t2.getD eQ.none=T2 at *
 split
 ·exact⟨k,Nat.zero_le _,g.r⟩
 split
 ·exact⟨k,Nat.zero_le _,g.r⟩
 split
 ·exact⟨k,Nat.zero_le _,g.r⟩
 split
 ·exact⟨k,Nat.zero_le _,g.r⟩
 have h0:XI T0 T1 T2 (⟨e.r1,e.r2,e.r3,T,0,0,dU d (n-1)-T0.log-T1.log-T2.log,dQ d (dU d (n-1)) T0.log,dQ d (dU d (n-1)-T0.log) T1.log,dQ d (dU d (n-1)-T0.log-T1.log) T2.log⟩:XS):=⟨k,Nat.zero_le _,g.r,eS _ _ _,eS _ _ _,eS _ _ _⟩
 have j:=sP (d:=d) (st:=off) (wl:=wl) (ll:=ll) u o1 o2 q l cnt h0
 generalize dy T0 T1 T2 d off L wl LT ll cnt _=r at *
 have hb:=j.bl
 split
 ·exact⟨j.s,aa,j.r⟩
 ·exact⟨qW j.s fun i=>l _,by dsimp only;omega,j.r⟩
end Go.Proofs.YtogmacnlpclgkaaGreatDoor
namespace Go.Proofs.YtogmacnlpclgkaaGreatDoor
open Go Go.Eng Go.Pz
attribute [local irreducible] RO J av aO
set_option maxRecDepth 20000
variable {G:ao} {S:bN G} {dat:Nat->Nat} {N:Nat}
theorem fS.take {l:Option Addr} {n k p:Nat} {T:Nat->Nat} {sm:ao} (h:fS (.slice l n p) n T sm) (r:k<=n):fS (.slice l k p) k T sm:=by
 rcases h with⟨j,rfl,g,i⟩|⟨b,cap,B,j,q,g,i,u,t⟩
 ·cases j;obtain rfl:k=0:=aa;exact .inl ⟨rfl,rfl,g,i⟩
 ·cases j;exact .inr ⟨b,_,B,rfl,q,g,i,Nat.le_trans r u,t⟩
theorem yE {T:Nat->Nat} {n k:Nat}:cQ (dw T) n k (fun _=>.int .u8 0)=dw (fj T n k fun _=>0):=xo fun _ _=>rfl
theorem yF {T T':Nat->Nat} {n k:Nat} (h:∀i,T i<256) (g:∀i,T' i<256):∀i,fj T n k T' i<256:=fun i=>by unfold fj;split;exact g _;exact h _
section
variable {P:Program} [ty:bA P] {qs:List FuncId} {c:World} {n:Nat} {h0:dx} {ops:Array Oper} {Q:Fr->ao->Prop} {rest:List Oper} {f:Fr} {m:ao}
variable {dd:Option Tmp} {T T' tt:TypeId} {pos:String} {aft:Array Edge}
theorem Ij {x:Operand} {hi:Option Operand} {e len i:Nat} {g:Option Addr} {r:ao} (hl:qd (.slice g len i) r) (hx:ev f x = .slice g len i) (q:bA.tk P T = .sl e) (hs:bA.sz P e=1) (j:∀k,dG f hi k=some 0) (hd:aE n dd=true)
  (p:RO P G qs c n h0 ops Q rest (aV f dd (.slice g 0 i)) m):RO P G qs c n h0 ops Q (⟨dd,.slice T x none hi none,tt,pos,aft,none⟩::rest) f m:=by
 rcases hl with⟨h,_⟩|⟨b,l,c,B,h,t,u,y,z⟩
 ·cases h;exact fY (s:=0) hx q hs rfl (j _) hd p
 ·cases h;exact rz (s:=0) 0 hx q hs (j _) (Nat.zero_le _) hd p
end
def nQ (s y:RS):Prop:=∃rv cb lit buf r1 r2 r3 ht hb a0 a1 i b0 g h c0 c1 c2 fs,y=({ s with rv:=rv,cb:=cb,lit:=lit,buf:=buf,r1:=r1,r2:=r2,r3:=r3,ht:=ht,hb:=hb,st0:=a0,st1:=a1,st2:=i,sb0:=b0,sb1:=g,sb2:=h,tb0:=c0,tb1:=c1,tb2:=c2,fs:=fs }:RS)
theorem vD {src:dn S dat N} {F:Nat} {x:Int} {s:RS} {p:PS CE} {z:ao} (k:∀i,s.scr i<256) (B:s.saw=p.saw/\s.sum=p.sum/\s.one=p.one/\s.unk=p.unk/\s.rem=p.rem/\s.off=p.off/\s.wsz=p.wsz) (j:p.rem<dR) (q:p.wsz<=2^30)
  (H:nF s.wd p.wsz s.wo p.L p.wl z) (hx:p.sum=true->yr s p.XT p.XN)
  (l:src.σ) (y:RS) (pos:Nat) (C:Nat->Nat) (bl:Nat) (e:CE) (A em:ao) (I:nQ s y) (u:y.rv = .iface src.t src.rv) (dE:src.ok l) (g:src.pos l=pos) (M:∀i,C i<256) (r:bl<=2^30) (hb:fS y.buf bl C A) (K:jd e y.ext em) :
  jV src jd F { p with pos:=pos,S:=C,bl:=bl,e:=e } ((F,az x y)::(src.mem l++(A++(z++em)))):=by
 obtain⟨rv,Y,lit,O,W,r2,U,ht,J,a0,a1,a2,b0,V,b2,c0,c1,c2,fs,rfl⟩:=I
 exact⟨x,_,l,A,z,em,rfl,dE,g,u,k,B,j,M,r,q,hb,H,fun h=>⟨(hx h).len,(hx h).acc,(hx h).cnt,(hx h).buf,(hx h).byte⟩,K⟩
theorem nQ.buf {s y:RS} (h:nQ s y) (v:Value):nQ s (y.wBuf v):=by
 obtain⟨_,_,_,_,_,_,_,_,_,_,_,_,_,_,_,_,_,_,_,rfl⟩:=h
 exact⟨_,_,_,_,_,_,_,_,_,_,_,_,_,_,_,_,_,_,_,rfl⟩
theorem nQ.wX {s y:RS} (h:nQ s y) (i:Option Addr) (bl l k g j:Nat):nQ s (y.wX i bl l k g j):=by
 obtain⟨_,_,_,_,_,_,_,_,_,_,_,_,_,_,_,_,_,_,_,rfl⟩:=h
 exact⟨_,_,_,_,_,_,_,_,_,_,_,_,_,_,_,_,_,_,_,rfl⟩
abbrev RS.wK (s:RS) (rv cb lit buf:Value):RS:={ s with rv:=rv,cb:=cb,lit:=lit,buf:=buf }
set_option maxHeartbeats 8000000 in
theorem xu (src:dn S dat N) (hd:∀i,dat i<256) (ex:ij G 4 fA) (d5:ij G 5 fB) (hN:N<=2^62) :
  sj src jd (bG dat N) (fun p _=>p.wsz<=2^27/\∀i,p.L i<256):=by
 intro I p m size hm ax hsz
 obtain⟨x,s,q0,bm,wm,em,rfl,dE,cw,ds,a0,bd,aw,a2,d7,bo,hb,hw,hx,c1⟩:=hm
 obtain⟨cl,cS,cm,lm,hm,m0,m1,m2,fm,jk,hp,e1,e2,e3,e4,e5,e6,e7,e8,e9,e10,e11,e12⟩:=c1
 refine bE Tryz.func86 fun c h0 hex=>?_
 have fd:=src.le q0 dE
 obtain⟨ca,cc,b2⟩:=ky.form e1
 obtain⟨ba,bc,c7⟩:=ky.form hb
 obtain⟨va,vl,vc,c3,cp,_,fr⟩:=e4.cut (fun _=>0)
 have hs:s=s.wK (.iface src.t src.rv) (.slice ca cl cc) (.slice va vl vc) (.slice ba p.bl bc):=by
  have h1:s.cb = .slice ca cl cc:=b2
  have h2:s.lit = .slice va vl vc:=c3
  rw[<- ds,<- c7,<- h1,<- h2]
 have ff:s.ext.cb=s.cb:=rfl
 rw[b2] at e1
 rw[c7] at hb
 have ha:=hb.view (M:=bm) (fun _ h=>h)
 refine bZ (m':=(I,az x (s.wK (.iface src.t src.rv) (.slice ca cl cc) (.slice va vl vc) (.slice ba p.bl bc)))::(cm++(src.mem q0++(bm++(wm++(lm++(hm++(m0++(m1++(m2++(fm++jk))))))))))) (by
  rw[<- hs];exact .of_perm (List.Perm.cons _ (((hp.append_left wm).append_left bm).append_left (src.mem q0) |>.trans an))) ?_
 obtain⟨a3,a8⟩:∃r,r=bm++(wm++(lm++(hm++(m0++(m1++(m2++(fm++jk))))))):=⟨_,rfl⟩
 rw[<- a8]
 refine go ?_
 refine bp (σ:=Option Addr×Nat×(Nat->Nat)×ao) [0] (fun _=>[]) (fun t=>(I,az x (s.wK (.iface src.t src.rv) (.slice t.1 size t.2.1) (.slice va vl vc) (.slice ba p.bl bc)))::(t.2.2.2++(src.mem q0++a3))) (fun t=>fS (.slice t.1 size t.2.1) size t.2.2.1 t.2.2.2/\∀i,t.2.2.1 i<256) ?_ ?_
 ·refine ac rfl (fun fl=>?_) (fun cp=>?_)
  ·have c0:=e1.view (M:=cm) (fun _ h=>h)
   have fc:=c0.le
   refine go ?_;refine fu size c0 rfl rfl rfl rfl rfl aa rfl ?_
   refine go ?_;exact⟨(ca,cc,cS,cm),⟨e1.take aa,e3⟩,joined ci⟩
  ·refine go ?_;refine uW (len:=cl) (k:=size-cl) (S:=dw cS) (sm:=cm) (fm:=(I,az x (s.wK (.iface src.t src.rv) (.slice ca cl cc) (.slice va vl vc) (.slice ba p.bl bc)))::(src.mem q0++a3)) rfl rfl rfl rfl z5 (by decide) rfl rfl e1 (an) rfl aa hex rfl ?_ (hQ:=fun _ _ _ e h=>by obtain⟨t,h1,h2,h3⟩:=h;exact⟨t,h1,h2,e.trans h3⟩)
   intro v' e0 hv fz
   rw[yE,show cl+(size-cl)=size from aa] at hv;obtain⟨W,V,rfl⟩:=ky.form hv;refine go ?_;exact⟨(W,V,fj cS cl (size-cl) fun _=>0,e0),⟨hv,yF e3 fun _=>by show 0<256;omega⟩,joined (.trans (.cons (B':=az x (s.wK (.iface src.t src.rv) (.slice W size V) (.slice va vl vc) (.slice ba p.bl bc))) dT (.refl _)) (.of_perm an))⟩
 clear e1 e2 e3 b2
 rintro⟨ca,cc,cS,cm⟩ f ⟨e1,e3⟩
 dsimp only at e1 e3 ⊢
 refine go ?_
 refine ar (zP src q0 (.slice ca size cc) size cS cm dE e1 aa) ?_ (fm:=(I,az x (s.wK (.iface src.t src.rv) (.slice ca size cc) (.slice va vl vc) (.slice ba p.bl bc)))::a3) (hs:=.of_perm an)
 rintro v m ⟨Y,k,j,g1,g2,g3,g4,rfl,rfl⟩
 rw[cw] at g2 g3 g4
 have bb:=nO (g:=cS) e3 hd k p.pos
 rw[c3] at e4
 by_cases h4:size<=k
 rotate_left
 ·have hR:bG dat N p size=({ p with pos:=p.pos+k },false):=by
   unfold bG;dsimp only;rw[<- g2,ai aa]
  have b1:jV src jd I (bG dat N p size).1 ((I,az x (s.wK (.iface src.t src.rv) (.slice ca size cc) (.slice va vl vc) (.slice ba p.bl bc)))::(src.mem Y++(bm++(wm++(j++(lm++(hm++(m0++(m1++(m2++(fm++jk))))))))))):=by
   rw[hR];exact vD a0 bd aw bo hw hx Y _ _ p.S p.bl p.e bm _ ⟨_,_,_,_,_,_,_,_,_,_,_,_,_,_,_,_,_,_,_,rfl⟩ rfl g1 g3 a2 d7 hb ⟨size,_,j,lm,hm,m0,m1,m2,fm,jk,.refl _,g4,aa,bb,e4,e5,e6,e7,e8,e9,e10,e11,e12⟩
  refine bj (m':=(I,az x (s.wK (.iface src.t src.rv) (.slice ca size cc) (.slice va vl vc) (.slice ba p.bl bc)))::(src.mem Y++(bm++(wm++(j++(lm++(hm++(m0++(m1++(m2++(fm++jk))))))))))) (by rw[a8];exact .of_perm an) ?_
  by_cases h5:k=0
  ·rw[eD h4 h5];refine go ?_;refine ae (iO S I x _ _) ?_
   rintro v m ⟨⟨b',rfl⟩,rfl⟩;refine go ?_;exact af (cE [4] ((I,az x _)::(src.mem Y++(bm++(wm++(j++(lm++(hm++(m0++(m1++(m2++(fm++jk))))))))))) (junk:=[]) ⟨b1,.inr ⟨by rw[hR],.inl ⟨b',rfl⟩⟩⟩ gX)
  ·rw[eF h4 h5];refine go ?_;refine ae (lD S I x _ _) ?_
   rintro v m ⟨⟨b',rfl⟩,rfl⟩;refine go ?_;exact af (cE [4] ((I,az x _)::(src.mem Y++(bm++(wm++(j++(lm++(hm++(m0++(m1++(m2++(fm++jk))))))))))) (junk:=[]) ⟨b1,.inr ⟨by rw[hR],.inl ⟨b',rfl⟩⟩⟩ gX)
 obtain rfl:k=size:=aa
 rw[eE (aZ _)]
 refine bj (m':=(I,az x (s.wK (.iface src.t src.rv) (.slice ca k cc) (.slice va vl vc) (.slice ba p.bl bc)))::(j++(src.mem Y++a3))) (.of_perm an) ?_
 have eh:=hb.view (M:=bm) (fun _ h=>h)
 refine go ?_
 refine fu 0 eh rfl rfl rfl rfl rfl (Nat.zero_le _) rfl ?_
 refine go ?_
 refine Ij e4 rfl rfl rfl (fun _=>rfl) rfl ?_
 refine go ?_
 obtain⟨d,b5⟩:∃d:Nat->Nat,d=fun i=>dat (p.pos+i):=⟨_,rfl⟩
 have a4:∀i,d i<256:=fun i=>by rw[b5];exact hd _
 have b6:∀M,aU (j++M) ca k cc d:=fun M=>(fS.view (M:=j++M) g4 fun _ h=>List.mem_append.2 (.inl h)).congr fun i hi=>by rw[b5];unfold ov;rw[ai hi]
 have b3:=hb.take (Nat.zero_le p.bl)
 have fn:k<=131072:=aa
 obtain⟨y,hy⟩:∃y,y=(s.wK (.iface src.t src.rv) (.slice ca k cc) (.slice va vl vc) (.slice ba 0 bc)):=⟨_,rfl⟩
 have fk:nQ s y:=by rw[hy];exact⟨_,_,_,_,_,_,_,_,_,_,_,_,_,_,_,_,_,_,_,rfl⟩
 have hR:bG dat N p k=(match(lits p.e d k).2 with
   | none=>({ p with pos:=p.pos+k,bl:=0,e:=(lits p.e d k).1 },false)
   | some (o,K,LT)=>match(cU (lits p.e d k).1 d k o).2 with
    | none=>({ p with pos:=p.pos+k,bl:=0,e:=(cU (lits p.e d k).1 d k o).1 },false)
    | some (c,o2)=>if c=0 then(if o2<k then({ p with pos:=p.pos+k,bl:=0,e:=(cU (lits p.e d k).1 d k o).1 },false) else({ p with pos:=p.pos+k,S:=fj p.S 0 K LT,bl:=K,e:=(cU (lits p.e d k).1 d k o).1 },true))
     else({ p with pos:=p.pos+k,S:=(eu (cU (lits p.e d k).1 d k o).1 d k o2 c p.L p.wl LT K p.S).1.S,bl:=(eu (cU (lits p.e d k).1 d k o).1 d k o2 c p.L p.wl LT K p.S).1.bl,e:={ (cU (lits p.e d k).1 d k o).1 with r1:=(eu (cU (lits p.e d k).1 d k o).1 d k o2 c p.L p.wl LT K p.S).1.r1,r2:=(eu (cU (lits p.e d k).1 d k o).1 d k o2 c p.L p.wl LT K p.S).1.r2,r3:=(eu (cU (lits p.e d k).1 d k o).1 d k o2 c p.L p.wl LT K p.S).1.r3 } },(eu (cU (lits p.e d k).1 d k o).1 d k o2 c p.L p.wl LT K p.S).2)):=by
  unfold bG;dsimp only;rw[<- g2,ah (Nat.lt_irrefl _),<- b5]<;>rfl
 refine bj (m':=(I,az x y)::(j++(src.mem Y++a3))) (.cons (by rw[hy];exact aW rfl rfl rfl rfl) (.refl _)) ?_
 have q2:=(H3 (G:=j++G) (bN.addC j S) I x y ca k cc a4 (b6 G) aa p.e va vc (fun _=>0) lm hm fm cp (by rw[hy];exact e5) (by rw[hy];exact e6) (by rw[hy];exact e10)).freeze
 refine ae q2 ?_ (fm:=src.mem Y++(bm++(wm++(m0++(m1++(m2++jk)))))) (hs:=by rw[a8];exact .of_perm an)
 rintro v m ⟨mm,⟨b7,B,cd,fm',k1,k2,hP⟩,rfl⟩
 have q:=qc p.e d k
 have ad:∀(e':CE) (y2:RS) em,bG dat N p k=({ p with pos:=p.pos+k,bl:=0,e:=e' },false)->nQ s y2->y2.rv = .iface src.t src.rv->y2.buf = .slice ba 0 bc->jd e' y2.ext em->∀er,jr S er ->
   jV src jd I (bG dat N p k).1 ((I,az x y2)::(src.mem Y++(bm++(wm++em))))/\((bG dat N p k).2=true/\er = .nilIface\/(bG dat N p k).2=false/\jr S er):=fun e' y2 em h1 h2 h3 h4 h5 er he=>by
  rw[h1];exact⟨vD a0 bd aw bo hw hx Y y2 _ p.S 0 e' bm em h2 h3 g1 g3 a2 (Nat.zero_le _) (by rw[h4];exact b3) h5,.inr ⟨rfl,he⟩⟩
 cases hL:(lits p.e d k).2 with
 | none =>
  rw[hL] at hP hR;obtain⟨er,C,rfl,he,kp,rfl⟩:=hP;have he:jr S er:=he
  obtain⟨et,eb,eo,rfl⟩:=jr.form he;obtain⟨ch,cr,l1,l2⟩:=qd.of_in (e4.slIn.keep kp)
  refine go ?_;refine af ?_;refine ag [4] (post:=(I,az x ((y.wHuf b7 (lits p.e d k).1.hb).wFs cd))::(src.mem Y++(bm++(wm++(j++(ch++(B++(m0++(m1++(m2++(fm'++(cr++jk)))))))))))) (junk:=[]) (ad _ _ _ hR (by rw[hy];exact⟨_,_,_,_,_,_,_,_,_,_,_,_,_,_,_,_,_,_,_,rfl⟩) (by rw[hy]) (by rw[hy]) ?_ _ he) rfl (.of_perm ((List.Perm.cons _ ((((l2.append_left fm').append_left B).append_right j).append_right _)).trans an))
  refine⟨k,_,j,ch,B,m0,m1,m2,fm',cr++jk,.refl _,by rw[hy];exact g4,aa,bb,by rw[hy];exact l1,k1,rfl,?_,?_,?_,k2,?_,?_⟩
  ·rw[q.1,hy];exact e7
  ·rw[q.2.1,hy];exact e8
  ·rw[q.2.2.1,hy];exact e9
  ·rw[q.2.2.2.1,q.2.2.2.2.1,q.2.2.2.2.2,hy];exact e11
  ·exact⟨by rw[q.1];exact e12.t0,by rw[q.2.1];exact e12.t1,by rw[q.2.2.1];exact e12.t2,by rw[q.2.2.2.1,q.2.2.2.2.1,q.2.2.2.2.2];exact e12.r⟩
 | some r =>
  obtain⟨o,K,LT⟩:=r;obtain⟨d0,b9⟩:=vC hL;rw[hL] at hP hR;dsimp only at hP hR;obtain⟨lv,C,H,rfl,u1,kp,rfl⟩:=hP;obtain⟨la,lc,rfl⟩:=nd.form u1;have bv:rf (lits p.e d k).1:=⟨by rw[q.1];exact e12.t0,by rw[q.2.1];exact e12.t1,by rw[q.2.2.1];exact e12.t2,by rw[q.2.2.2.1,q.2.2.2.2.1,q.2.2.2.2.2];exact e12.r⟩
  have be:∀i,LT i<256:=Ac a4 (by
   rcases e5 with⟨_,h,_⟩|⟨_,_,h,_⟩
   ·exact fun h2=>absurd h h2
   ·exact h) hL
  obtain⟨ee,eq⟩:∃e,e=(lits p.e d k).1:=⟨_,rfl⟩
  rw[<- eq] at bv q k1 hR ⊢;obtain⟨y2,a1⟩:∃y2:RS,y2=((y.wHuf b7 ee.hb).wFs cd).wLit (.slice la K lc):=⟨_,rfl⟩
  have hT:Ic y2 ee m0 m1 m2 fm':=⟨by rw[q.1,a1,hy];exact e7,by rw[q.2.1,a1,hy];exact e8,by rw[q.2.2.1,a1,hy];exact e9,by rw[a1];exact k2⟩
  refine go ?_;refine bj (m':=(I,az x y2)::(j++(src.mem Y++(bm++(wm++(C++(B++(m0++(m1++(m2++(fm'++(H++jk)))))))))))) (.trans (.cons (B':=az x y2) (by rw[a1];exact aW rfl rfl rfl rfl) (.refl _)) (.of_perm an)) ?_
  have q3:=(Ie (G:=j++G) (bN.addC j S) (ex.mono fun _ h=>List.mem_append.2 (.inr h)) (d5.mono fun _ h=>List.mem_append.2 (.inr h)) I x y2 ca k cc a4 (b6 G) aa o d0 ee m0 m1 m2 fm' hT).freeze
  refine ae q3 ?_ (fm:=src.mem Y++(bm++(wm++(C++(B++(H++jk)))))) (hs:=.of_perm an)
  rintro v m ⟨mm,⟨l,n0,n1,n2,nf,hO,U,rfl,a7⟩,rfl⟩;obtain⟨u,ce⟩:=uq (d:=d) (n:=k) (off:=o) a4 bv
  have O:=qV ee d k o
  obtain⟨ab,cx⟩:∃e,e=(cU ee d k o).1:=⟨_,rfl⟩
  rw[<- cx] at u ce O U hR;have d1:l=l.wBuf (.slice ba 0 bc)/\nQ s l/\l.rv = .iface src.t src.rv/\l.cb = .slice ca k cc/\l.lit = .slice la K lc/\l.ht=b7/\l.hb=ee.hb/\l.r1=s.r1/\l.r2=s.r2/\l.r3=s.r3/\l.wd=s.wd/\l.wo=s.wo:=by
   obtain⟨_,_,_,_,_,_,_,_,_,_,rfl⟩:=hO;rw[a1,hy];exact⟨rfl,⟨_,_,_,_,_,_,_,_,_,_,_,_,_,_,_,_,_,_,_,rfl⟩,rfl,rfl,rfl,rfl,rfl,rfl,rfl,rfl,rfl,rfl⟩
  obtain⟨bs,br,bq,c5,c4,dc,c6,cu,cs,bt,da,bu⟩:=d1;have am:jd ab l.ext (j++(C++(B++(n0++(n1++(n2++(nf++(H++jk)))))))):=by
   refine⟨k,_,j,C,B,n0,n1,n2,nf,H++jk,.refl _,by rw[show l.ext.cb=l.cb from rfl,c5];exact g4,aa,bb,by rw[show l.ext.lit=l.lit from rfl,c4];exact qd.of_lt u1,?_,?_,U.t0,U.t1,U.t2,U.fs,?_,u⟩
   ·rw[O.1,O.2.1,show l.ext.ht=l.ht from rfl,dc];exact k1
   ·rw[O.1,show l.ext.hb=l.hb from rfl,c6]
   ·rw[O.2.2.1,O.2.2.2.1,O.2.2.2.2,q.2.2.2.1,q.2.2.2.2.1,q.2.2.2.2.2,show l.ext.r1=l.r1 from rfl,show l.ext.r2=l.r2 from rfl,show l.ext.r3=l.r3 from rfl,cu,cs,bt];exact e11
  cases hI:(cU ee d k o).2 with
  | none =>
   rw[hI] at a7 hR;obtain⟨er,rfl,he⟩:=a7;obtain⟨b',rfl⟩:=he;refine go ?_;exact af (ii [4] ((I,az x l)::(src.mem Y++(bm++(wm++(j++(C++(B++(n0++(n1++(n2++(nf++(H++jk)))))))))))) (ad _ _ _ hR br bq (by rw[bs]) am _ (.inl ⟨b',rfl⟩)))
  | some r3 =>
   obtain⟨cn,o2⟩:=r3;obtain⟨d6,dt,ec⟩:=ce cn o2 hI;rw[hI] at a7 hR;dsimp only at a7 hR;subst a7;refine go ?_;refine bZ (m':=(I,az x (l.wBuf (.slice ba 0 bc)))::(src.mem Y++(bm++(wm++(j++(C++(B++(n0++(n1++(n2++(nf++(H++jk)))))))))))) (by rw[<- bs];exact .of_perm an) ?_
   refine ac rfl (fun ea=>?_) (fun ea=>?_)
   ·rw[ai aa] at hR;refine go ?_;refine ac rfl (fun gs=>?_) (fun fb=>?_)
    ·rw[ai aa] at hR;refine go ?_;refine ae (c_ S I x _ _ _) ?_
     rintro v m ⟨⟨b',rfl⟩,rfl⟩;refine go ?_;exact af (cE [4] ((I,az x (l.wBuf (.slice ba 0 bc)))::(src.mem Y++(bm++(wm++(j++(C++(B++(n0++(n1++(n2++(nf++(H++jk)))))))))))) (junk:=[]) (by rw[<- bs];exact ad _ _ _ hR br bq (by rw[bs]) am _ (.inl ⟨b',rfl⟩)) (by rw[List.append_nil];exact .refl _))
    ·rw[ah aa] at hR;refine go ?_;refine lJ (len:=0) (S:=p.S) (X:=LT) (sm:=bm) (fm:=(I,az x (l.wBuf (.slice ba 0 bc)))::(src.mem Y++(wm++(j++(C++(B++(n0++(n1++(n2++(nf++(H++jk))))))))))) rfl rfl rfl rfl z5 (by decide) rfl rfl b3 (an) rfl (nd.view u1 fun _ h=>by simp[h]) aa hex rfl ?_
     intro W V al c8;rw[show 0+K=K from Nat.zero_add K] at c8 ⊢;refine go ?_;exact af (cE [4] ((I,az x (l.wBuf (.slice W K V)))::(src.mem Y++(al++(wm++(j++(C++(B++(n0++(n1++(n2++(nf++(H++jk)))))))))))) (junk:=[]) ⟨by rw[hR];exact vD a0 bd aw bo hw hx Y (l.wBuf (.slice W K V)) _ (fj p.S 0 K LT) K ab al _ (br.buf _) bq g1 g3 (yF a2 be) aa c8 am,.inl ⟨by rw[hR],rfl⟩⟩ (.trans (.cons (B':=az x (l.wBuf (.slice W K V))) dT (.refl _)) (.of_perm an)))
   ·rw[ah aa] at hR;obtain⟨T0,T1,T2,t0,t1,t2⟩:=ec aa;have d4:0<k:=by
     rcases Nat.eq_zero_or_pos k with h|h
     ·rw[h] at hL;exact absurd hL (by unfold lits;rw[ai rfl];exact fun h=>by cases h)
     ·exact h
    obtain⟨F,hF⟩:∃F,F=j++(wm++(C++(n0++(n1++n2)))):=⟨_,rfl⟩
    obtain⟨wa,eB,ph,w1,w2,w3,w4,w5⟩:=hw.view (M:=F++G) (fun _ h=>by simp[hF,h])
    have cq:aU (F++G) ca k cc d:=(b6 []).mono fun _ h=>by simp at h;simp[hF,h]
    have dl:aU (F++G) la K lc LT:=nd.view u1 fun _ h=>by simp[hF,h]
    have fa:sN (F++G) l.st0 l.sb0 T0:=sN.of (by rw[<- t0];exact U.t0) fun _ h=>by simp[hF,h]
    have d2:sN (F++G) l.st1 l.sb1 T1:=sN.of (by rw[<- t1];exact U.t1) fun _ h=>by simp[hF,h]
    have es:sN (F++G) l.st2 l.sb2 T2:=sN.of (by rw[<- t2];exact U.t2) fun _ h=>by simp[hF,h]
    have b8:l.r1=ab.r1/\l.r2=ab.r2/\l.r3=ab.r3:=by
     rw[O.2.2.1,O.2.2.2.1,O.2.2.2.2,q.2.2.2.1,q.2.2.2.2.1,q.2.2.2.2.2,cu,cs,bt];exact e11
    have q4:=(Ii (G:=F++G) (bN.addC F S) I x (l.wBuf (.slice ba 0 bc)) ca k cc a4 cq aa d4 o2 d6 T0 T1 T2 ab t0 t1 t2 b8.1 b8.2.1 b8.2.2 u.r (u.t0 _ t0) (u.t1 _ t1) (u.t2 _ t2) fa d2 es wa p.wl eB ph (by show l.wd=_;rw[da];exact w1) w2 (by show l.wo<=_;rw[bu];exact w3) (by have:=ax.1;omega) la K lc LT dl aa cn dt ba bc p.S bm rfl b3).freeze
    refine go ?_;refine ae q4 ?_ (fm:=src.mem Y++(B++(nf++(H++jk)))) (hs:=by rw[hF];exact .of_perm an)
    rintro v m ⟨mm,cN,rfl⟩;obtain⟨R,a6⟩:∃R,R=eu ab d k o2 cn p.L p.wl LT K p.S:=⟨_,rfl⟩
    have dm:eu ab d k o2 cn (jP ph (l.wBuf (.slice ba 0 bc)).wo p.wl) p.wl LT K p.S=R:=by
     rw[a6];refine(vB (fun i hi=>?_) _ _ _ _ _).symm
     rw[w5 i hi];show _=jP ph l.wo p.wl i
     rw[bu]
    rw[dm] at cN;have d8:∀i,R.1.S i<256:=by rw[a6];exact(lK u ax.2 be a2 b9).1
    have eL:R.1.bl<=2^30:=by rw[a6];exact(lK u ax.2 be a2 b9).2.1
    have d3:R.1.r1<4294967296/\R.1.r2<4294967296/\R.1.r3<4294967296:=by rw[a6];exact(lK u ax.2 be a2 b9).2.2
    rw[<- a6] at hR;obtain⟨W,V,al,ev,rfl,a9⟩:=cN;obtain⟨y5,J⟩:∃y5,y5=(l.wBuf (.slice ba 0 bc)).wX W R.1.bl V R.1.r1 R.1.r2 R.1.r3:=⟨_,rfl⟩
    rw[<- J];have b4:jd { ab with r1:=R.1.r1,r2:=R.1.r2,r3:=R.1.r3 } y5.ext (j++(C++(B++(n0++(n1++(n2++(nf++(H++jk)))))))):=by
     refine⟨k,_,j,C,B,n0,n1,n2,nf,H++jk,.refl _,by rw[J,show((l.wBuf (.slice ba 0 bc)).wX W R.1.bl V R.1.r1 R.1.r2 R.1.r3).ext.cb=l.cb from rfl,c5];exact g4,aa,bb,by rw[J,show((l.wBuf (.slice ba 0 bc)).wX W R.1.bl V R.1.r1 R.1.r2 R.1.r3).ext.lit=l.lit from rfl,c4];exact qd.of_lt u1,?_,?_,by rw[J];exact U.t0,by rw[J];exact U.t1,by rw[J];exact U.t2,by rw[J];exact U.fs,by rw[J];exact⟨rfl,rfl,rfl⟩,⟨u.t0,u.t1,u.t2,d3⟩⟩
     ·rw[J,show((l.wBuf (.slice ba 0 bc)).wX W R.1.bl V R.1.r1 R.1.r2 R.1.r3).ext.ht=l.ht from rfl,dc];dsimp only;rw[O.1,O.2.1];exact k1
     ·rw[J,show((l.wBuf (.slice ba 0 bc)).wX W R.1.bl V R.1.r1 R.1.r2 R.1.r3).ext.hb=l.hb from rfl,c6];exact O.1.symm
    have a5:jV src jd I (bG dat N p k).1 ((I,az x y5)::(src.mem Y++(al++(wm++(j++(C++(B++(n0++(n1++(n2++(nf++(H++jk)))))))))))):=by
     rw[hR];exact vD a0 bd aw bo hw hx Y y5 _ R.1.S R.1.bl _ al _ (by rw[J];exact(br.buf _).wX _ _ _ _ _ _) (by rw[J];exact bq) g1 g3 d8 eL (by rw[J];exact ev) b4
    have c2:(bG dat N p k).2=R.2:=by rw[hR]
    cases hb2:R.2 with
    | true =>
     rw[hb2,ai rfl] at a9;subst a9;refine go ?_;exact af (cE [4] ((I,az x y5)::(src.mem Y++(al++(wm++(j++(C++(B++(n0++(n1++(n2++(nf++(H++jk)))))))))))) (junk:=[]) ⟨a5,.inl ⟨c2.trans hb2,rfl⟩⟩ (.of_perm (by rw[hF];exact an)))
    | false =>
     rw[hb2,ah (fun h=>by cases h)] at a9
     obtain⟨b',rfl⟩:=a9;refine go ?_;exact af (cE [4] ((I,az x y5)::(src.mem Y++(al++(wm++(j++(C++(B++(n0++(n1++(n2++(nf++(H++jk)))))))))))) (junk:=[]) ⟨a5,.inr ⟨c2.trans hb2,.inl ⟨b',rfl⟩⟩⟩ (.of_perm (by rw[hF];exact an)))
end Go.Proofs.YtogmacnlpclgkaaGreatDoor
