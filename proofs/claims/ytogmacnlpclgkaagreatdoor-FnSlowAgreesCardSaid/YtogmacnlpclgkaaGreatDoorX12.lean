/- Texts 12. -/
import Derived.Test.YtogmacnlpclgkaaGreatDoorX11
set_option linter.all false
namespace Go.Proofs.YtogmacnlpclgkaaGreatDoor
open Go Go.Eng
attribute [local irreducible] RO J av aO
set_option maxRecDepth 20000
variable {G:ao}
def Km (h k:Nat):Nat:=(kJ (h ^^^ jG 0 k) 27*zM%dR+HF)%dR
def Bg (h k:Nat):Nat:=(kJ (h ^^^ (k*zM%dR)) 23*Fl%dR+G0)%dR
def JM (h k:Nat):Nat:=kJ (h ^^^ (k*Cr%dR)) 11*zM%dR
theorem HL (h k:Nat):Km h k<dR:=en _
theorem C9 (h k:Nat):Bg h k<dR:=en _
theorem HM (h k:Nat):JM h k<dR:=en _
theorem tY {a b:Nat} (g:a<dR) (hb:b<dR):a ^^^ b<dR:=by
 rw[jb] at *;exact Nat.xor_lt_two_pow g hb
def ng (T:Nat->Nat) (h:Nat):Nat->Nat
 | 0=>h
 | j+1=>Km (ng T h j) (l7 fun i=>T (8*j+i))
def v6 (T:Nat->Nat) (h:Nat):Nat->Nat
 | 0=>h
 | j+1=>JM (v6 T h j) (T j)
theorem kB (T:Nat->Nat) {h:Nat} (g:h<dR):∀j,ng T h j<dR
 | 0=>g
 | j+1=>by rw[ng];exact HL _ _
theorem pS (T:Nat->Nat) {h:Nat} (g:h<dR):∀j,v6 T h j<dR
 | 0=>g
 | j+1=>by rw[v6];exact HM _ _
theorem tZ {T T':Nat->Nat} {h:Nat}:∀j,(∀i,i<8*j->T i=T' i)->ng T h j=ng T' h j
 | 0,_=>rfl
 | j+1,e=>by
  rw[ng,ng,tZ j (fun i hi=>e i aa),tW fun i hi=>e (8*j+i) aa]
theorem t_ {T T':Nat->Nat} {h:Nat}:∀j,(∀i,i<j->T i=T' i)->v6 T h j=v6 T' h j
 | 0,_=>rfl
 | j+1,e=>by
  rw[v6,v6,t_ j (fun i hi=>e i aa),e j aa]
def lV (T:Nat->Nat) (h r:Nat):Nat :=
 let a:=ng T h (r/8)
 let b:=if 4<=r%8 then Bg a (eX fun i=>T (8*(r/8)+i)) else a
 v6 (fun i=>T (4*(r/4)+i)) b (r%4)
theorem qM {T T':Nat->Nat} {h r:Nat} (e:∀i,i<r->T i=T' i):lV T h r=lV T' h r:=by
 unfold lV
 dsimp only
 rw[tZ (r/8) fun i hi=>e i aa]
 have j:4<=r%8->eX (fun i=>T (8*(r/8)+i))=eX fun i=>T' (8*(r/8)+i):=fun h=>by
  unfold eX;dsimp only;rw[e (8*(r/8)+0) aa,e (8*(r/8)+1) aa,e (8*(r/8)+2) aa,e (8*(r/8)+3) aa]
 have:(if 4<=r%8 then Bg (ng T' h (r/8)) (eX fun i=>T (8*(r/8)+i)) else ng T' h (r/8))=if 4<=r%8 then Bg (ng T' h (r/8)) (eX fun i=>T' (8*(r/8)+i)) else ng T' h (r/8):=by
  by_cases g:4<=r%8
  ·rw[ai g,ai g,j g]
  ·rw[ah g,ah g]
 rw[this]
 exact t_ _ fun i hi=>e _ aa
def C_ (h:Nat):Nat :=
 let a:=(h ^^^ h/2^33)*Fl%dR
 let b:=(a ^^^ a/2^29)*G0%dR
 b ^^^ b/2^32
def Fq (v:Nat->Nat):Nat :=
 yq (yq (yq (yq ((((kJ (v 0) 1+kJ (v 1) 7)%dR+kJ (v 2) 12)%dR+kJ (v 3) 18)%dR) (v 0)) (v 1)) (v 2)) (v 3)
def iW (v:Nat->Nat) (l:Nat):Nat:=((if l<32 then(v 2+Cr)%dR else Fq v)+l)%dR
def gw (T:Nat->Nat) (N:Nat):Nat:=C_ (lV (fun i=>T (32*(N/32)+i)) (iW (fv T (N/32)) (N%dR)) (N%32))
set_option maxHeartbeats 1000000 in
theorem HN (u:Nat) (x:Int) (s:RS) (T:Nat->Nat) (N:Nat) (hx:yr s T N) :
  av Tryz.prog G 89 #[.pointer (some ⟨u,45,none⟩)] [(u,az x s)] (fun v m=>v = .int .u64 (gw T N)/\m=[(u,az x s)]):=by
 refine bE Tryz.func89 fun c h0 hex=>?_
 obtain⟨hl,ha,hc,hb,I⟩:=hx
 have am:s.xl<dR:=by rw[hl];exact en _
 have M:∀i,i<4->s.xv i<dR:=fun i hi=>by
  rw[ha i hi]
  cases N/32 with
  | zero=>rw[jb];match i,hi with
   | 0,_=>show 6983438078262162902<_;decide
   | 1,_=>show 14029467366897019727<_;decide
   | 2,_=>show 0<_;decide
   | 3,_=>show 7046029288634856825<_;decide
  | succ n=>rw[pR];exact ki _ _
 have bb:s.xl<18446744073709551616:=by rw[jb] at am;exact am
 refine go ?_
 refine bp (σ:=Nat) [0] (fun h=>[(3,.int .u64 h)]) (fun _=>[(u,az x s)]) (fun h=>(h+s.xl)%dR=iW s.xv s.xl) ?_ ?_
 ·refine ac rfl (fun bm=>?_) (fun br=>?_)
  ·try refine dk ?_
   refine oJ (qs:=qsT) mixed_ok (by kernel_rfl) ?_
   refine gB (by conv=>lhs;whnf) ?_
   refine rA (i:=2) rfl rfl rfl rfl rfl (by decide) rfl ?_
   refine gB (by conv=>lhs;whnf) ?_
   refine mT (v:=.int .u64 (s.xv 2)) rfl rfl .here rfl rfl rfl ?_
   refine eM rfl rfl rfl vh rfl rfl ?_
   rw[bK];refine go ?_;refine⟨_,?_,joined (.refl _)⟩
   unfold iW;rw[ai aa]
  ·refine go ?_;refine aA (jh (K:=1) 1 rfl (M 0 (by decide)) (by decide)) ?_
   refine go ?_;refine aA (jh (K:=7) 7 rfl (M 1 (by decide)) (by decide)) ?_
   refine go ?_;refine eM rfl rfl rfl rfl rfl rfl ?_
   rw[bK];refine go ?_;refine aA (jh (K:=12) 12 rfl (M 2 (by decide)) (by decide)) ?_
   refine go ?_;refine eM rfl rfl rfl rfl rfl rfl ?_
   rw[bK];refine go ?_;refine aA (jh (K:=18) 18 rfl (M 3 (by decide)) (by decide)) ?_
   refine go ?_;refine eM rfl rfl rfl rfl rfl rfl ?_
   rw[bK];refine go ?_;refine aA (vi (en _)) ?_
   refine go ?_;refine aA (vi (rF _ _)) ?_
   refine go ?_;refine aA (vi (rF _ _)) ?_
   refine go ?_;refine aA (vi (rF _ _)) ?_
   refine go ?_;refine⟨_,?_,joined (.refl _)⟩
   unfold iW;rw[ah aa];rfl
 ·intro hh f a8;refine go ?_;refine eM rfl rfl rfl rfl rfl rfl ?_
  rw[bK,a8];refine go ?_;have y:iW s.xv s.xl<dR:=en _
  generalize a6:iW s.xv s.xl=h1 at y ⊢;have hr:s.xl%32=N%32:=by rw[hl,jb];omega
  rw[hr];generalize hr0:N%32=r at hb ⊢;have bc:r<32:=aa
  refine aH (σ:=Option Addr×Nat×Nat×Nat) [0] (fun t=>[(3,.int .u64 (ng s.xb h1 t.2.2.2)),(4,.int .u64 ((r-8*t.2.2.2:Nat):Int)),(5,.slice t.1 t.2.1 t.2.2.1)]) (fun t=>[(u,az x s)])
   (fun t=>aU ([(u,az x s)]++G) t.1 t.2.1 t.2.2.1 (fun i=>s.xb (8*t.2.2.2+i))/\t.2.1=32-8*t.2.2.2/\8*t.2.2.2<=r) (fun t=>t.2.1) (some ⟨u,50,none⟩,32,32,0) (.refl _) ⟨?_,rfl,by show 8*0<=r;omega⟩ ?_
  ·exact(Fm _ u x s List.mem_cons_self 0 (by decide)).congr fun i hi=>by rw[Nat.mul_zero]
  rintro⟨C,p,q,j⟩ f ⟨k,H,U⟩;dsimp only at k H U ⊢;have F:=k.le
  refine go ?_;refine ac rfl (fun(hg:((r-8*j:Nat):Int) ≥ 8)=>?_) (fun(hg:¬((r-8*j:Nat):Int) ≥ 8)=>?_)
  ·refine go ?_;refine aA (lE k (fun _=>I _) aa) ?_
   refine go ?_;refine aA (kA (V:=0) 0 rfl) ?_
   refine go ?_;refine cT 8 p k rfl rfl rfl rfl rfl rfl rfl aa F rfl ?_
   refine go ?_;refine fP rfl rfl rfl rfl (hU (kB _ y _)) (hU (ki _ _)) rfl ?_
   refine go ?_;refine aA (jh (K:=27) 27 rfl (tY (kB _ y _) (ki _ _)) (by decide)) ?_
   refine dZ rfl rfl rfl kz rfl rfl ?_
   rw[bK];refine eM rfl rfl rfl vg rfl rfl ?_
   rw[bK];have z:(kJ (ng s.xb h1 j ^^^ jG 0 (l7 fun i=>s.xb (8*j+i))) 27*zM%dR+HF)%dR=ng s.xb h1 (j+1):=by rw[ng];rfl
   rw[z];refine go ?_;refine⟨(ek C 8 q,p-8,q-8,j+1),(by show p-8<p;omega),⟨(k.sub (l:=8) (h:=p) aa (aZ _)).congr fun i hi=>?_,(by show p-8=32-8*(j+1);omega),(by show 8*(j+1)<=r;omega)⟩,joined (.refl _)⟩
   show s.xb (8*j+(8+i))=s.xb (8*(j+1)+i)
   congr 1;omega
  ·have hj:j=r/8:=aa
   refine go ?_;refine bp (σ:=Nat×Option Addr×Nat×Nat) [] (fun t=>[(3,.int .u64 t.1),(4,.int .u64 ((r%4:Nat):Int)),(5,.slice t.2.1 t.2.2.1 t.2.2.2)]) (fun t=>[(u,az x s)])
    (fun t=>t.1=(if 4<=r%8 then Bg (ng s.xb h1 (r/8)) (eX fun i=>s.xb (8*(r/8)+i)) else ng s.xb h1 (r/8))/\t.1<dR/\aU ([(u,az x s)]++G) t.2.1 t.2.2.1 t.2.2.2 (fun i=>s.xb (4*(r/4)+i))/\t.2.2.1=32-4*(r/4)) ?_ ?_
   ·refine ac rfl (fun(a9:((r-8*j:Nat):Int) ≥ 4)=>?_) (fun(a9:¬((r-8*j:Nat):Int) ≥ 4)=>?_)
    ·refine go ?_;refine aA (HG k (fun _=>I _) aa) ?_
     have bo:eX (fun i=>s.xb (8*j+i))<4294967296:=lC _ fun _=>I _
     refine r7 rfl rfl rfl rfl (GT aa) rfl ?_
     refine dZ rfl rfl rfl kz rfl rfl ?_
     rw[bK];refine fP rfl rfl rfl rfl (hU (kB _ y _)) (hU (en _)) rfl ?_
     refine go ?_;refine cT 4 p k rfl rfl rfl rfl rfl rfl rfl aa F rfl ?_
     refine go ?_;refine aA (jh (K:=23) 23 rfl (tY (kB _ y _) (en _)) (by decide)) ?_
     refine dZ rfl rfl rfl pQ rfl rfl ?_
     rw[bK];refine eM rfl rfl rfl vf rfl rfl ?_
     rw[bK];have z:(kJ (ng s.xb h1 j ^^^ (eX fun i=>s.xb (8*j+i))*zM%dR) 23*Fl%dR+G0)%dR=Bg (ng s.xb h1 j) (eX fun i=>s.xb (8*j+i)):=rfl
     rw[z];refine go ?_;refine⟨(Bg (ng s.xb h1 j) (eX fun i=>s.xb (8*j+i)),ek C 4 q,p-4,q-4),⟨?_,C9 _ _,(k.sub (l:=4) (h:=p) aa (aZ _)).congr fun i hi=>?_,(by show p-4=32-4*(r/4);omega)⟩,joined (.refl _) ⟨rfl,?_,rfl,trivial⟩⟩
     ·show Bg (ng s.xb h1 j) (eX fun i=>s.xb (8*j+i))=_
      rw[ai aa,hj]
     ·show s.xb (8*j+(4+i))=s.xb (4*(r/4)+i)
      congr 1;omega
     ·show Value.int .u64 ((r-8*j-4:Nat):Int) = .int .u64 ((r%4:Nat):Int)
      congr 2;omega
    ·refine go ?_;refine⟨(ng s.xb h1 j,C,p,q),⟨?_,kB _ y _,k.congr fun i hi=>?_,(by show p=32-4*(r/4);omega)⟩,joined (.refl _) ⟨rfl,?_,rfl,trivial⟩⟩
     ·show ng s.xb h1 j=_
      rw[ah aa,hj]
     ·show _=s.xb (4*(r/4)+i)
      congr 1;omega
     ·show Value.int .u64 ((r-8*j:Nat):Int) = .int .u64 ((r%4:Nat):Int)
      congr 2;omega
   ·rintro⟨h2,a2,n2,ab⟩ f ⟨a0,J,W,Y⟩;dsimp only at a0 J W Y ⊢;clear k H hg hj F;refine go ?_;refine aH (σ:=Option Addr×Nat×Nat×Nat) [] (fun t=>[(3,.int .u64 (v6 (fun i=>s.xb (4*(r/4)+i)) h2 t.2.2.2)),(4,.int .u64 ((r%4-t.2.2.2:Nat):Int)),(5,.slice t.1 t.2.1 t.2.2.1)]) (fun t=>[(u,az x s)])
     (fun t=>aU ([(u,az x s)]++G) t.1 t.2.1 t.2.2.1 (fun i=>s.xb (4*(r/4)+(t.2.2.2+i)))/\t.2.1=32-4*(r/4)-t.2.2.2/\t.2.2.2<=r%4) (fun t=>t.2.1) (a2,n2,ab,0) (.refl _) ⟨W.congr fun i hi=>by rw[Nat.zero_add],Y,Nat.zero_le _⟩ ?_
    clear W Y a2 n2 ab;rintro⟨C,p,q,j⟩ f ⟨k,H,U⟩;dsimp only at k H U ⊢;have F:=k.le
    refine go ?_;refine ac rfl (fun(hg:((r%4-j:Nat):Int)>0)=>?_) (fun(hg:¬((r%4-j:Nat):Int)>0)=>?_)
    ·obtain⟨b0,o0,B0,a7,ax,ba,ad⟩:∃b o B,C=some ⟨b,o,none⟩/\(b,B)∈[(u,az x s)]++G/\(0<p->o+p<=B.n)/\∀i,i<p->B.g (o+i) = .int .u8 ((s.xb (4*(r/4)+(j+i)):Nat):Int):=by
      rcases k.is with⟨_,h,_⟩|h
      ·omega
      ·exact h
     have bq:=ba aa
     subst a7;refine go ?_;refine aK rfl rfl ax (show o0+0<B0.n from aa) (ad 0 aa) rfl ?_
     have be:=I (4*(r/4)+(j+0))
     refine go ?_;refine dZ rfl rfl rfl vh rfl rfl ?_
     rw[bK];refine fP rfl rfl rfl rfl (hU (pS _ J _)) (hU (en _)) rfl ?_
     refine go ?_;refine aA (jh (K:=11) 11 rfl (tY (pS _ J _) (en _)) (by decide)) ?_
     refine dZ rfl rfl rfl kz rfl rfl ?_
     rw[bK];have z:kJ (v6 (fun i=>s.xb (4*(r/4)+i)) h2 j ^^^ s.xb (4*(r/4)+(j+0))*Cr%dR) 11*zM%dR=v6 (fun i=>s.xb (4*(r/4)+i)) h2 (j+1):=by rw[v6];rfl
     rw[z];refine go ?_;refine⟨(some ⟨b0,o0+1,none⟩,p-1,q-1,j+1),(by show p-1<p;omega),⟨⟨by show p-1<=q-1;omega,.inr ⟨b0,o0+1,B0,rfl,ax,fun _=>by show o0+1+(p-1)<=_;omega,fun i hi=>?_⟩⟩,(by show p-1=32-4*(r/4)-(j+1);omega),(by show j+1<=r%4;omega)⟩,joined (.refl _)⟩
     have bd:i<p-1:=hi
     have:=ad (1+i) aa
     rw[Nat.add_assoc,this];show Value.int .u8 _=Value.int .u8 ((s.xb (4*(r/4)+(j+1+i)):Nat):Int)
     rw[Nat.add_assoc j 1 i]
    ·have hj:j=r%4:=aa
     have O:=pS (fun i=>s.xb (4*(r/4)+i)) J j
     have a3:v6 (fun i=>s.xb (4*(r/4)+i)) h2 j=lV s.xb h1 r:=by
      unfold lV;dsimp only;rw[hj,a0]
     rw[a3] at O ⊢;generalize a5:lV s.xb h1 r=h3 at O ⊢;refine go ?_;refine fP rfl rfl rfl rfl (hU O) (hU (Nat.lt_of_le_of_lt (Nat.div_le_self _ _) O)) rfl ?_
     refine go ?_;refine dZ rfl rfl rfl pQ rfl rfl ?_
     rw[bK];generalize a1:(h3 ^^^ h3/2^33)*Fl%dR=h4;have al:h4<dR:=a1▸en _
     refine go ?_;refine fP rfl rfl rfl rfl (hU al) (hU (Nat.lt_of_le_of_lt (Nat.div_le_self _ _) al)) rfl ?_
     refine go ?_;refine dZ rfl rfl rfl vf rfl rfl ?_
     rw[bK];generalize aw:(h4 ^^^ h4/2^29)*G0%dR=h5;have a4:h5<dR:=aw▸en _
     refine go ?_;refine fP rfl rfl rfl rfl (hU a4) (hU (Nat.lt_of_le_of_lt (Nat.div_le_self _ _) a4)) rfl ?_
     refine go ?_;refine af ?_;refine ag [2] ⟨?_,rfl⟩
     show Value.int .u64 ((h5 ^^^ h5/2^32:Nat):Int)=_
     have e1:iW (fv T (N/32)) (N%dR)=h1:=by
      rw[<- a6];unfold iW Fq;rw[ha 0 (by decide),ha 1 (by decide),ha 2 (by decide),ha 3 (by decide),hl]
     have e2:lV (fun i=>T (32*(N/32)+i)) h1 (N%32)=h3:=by
      rw[<- a5,hr0];exact(qM hb).symm
     unfold gw;rw[e1,e2];unfold C_;dsimp only;rw[a1,aw]
end Go.Proofs.YtogmacnlpclgkaaGreatDoor
namespace Go.Proofs.YtogmacnlpclgkaaGreatDoor
open Go Go.Eng
attribute [local irreducible] RO J av aO
set_option maxRecDepth 4000
def jr {G:ao} (S:bN G) (e:Value):Prop:=dM S .z e\/e=S.ueofV
theorem jr.form {G:ao} {S:bN G} {e:Value} (h:jr S e):∃t b o,e = .iface t (.pointer (some ⟨b,o,none⟩)):=by
 rcases h with⟨b,rfl⟩|rfl
 ·exact⟨_,_,_,rfl⟩
 ·exact⟨_,_,_,rfl⟩
structure RX where
 r1:Nat
 r2:Nat
 r3:Nat
 ht:Value
 hb:Nat
 cb:Value
 lit:Value
 st0:Value
 st1:Value
 st2:Value
 sb0:Nat
 sb1:Nat
 sb2:Nat
 tb0:Value
 tb1:Value
 tb2:Value
 fs:Value
def RS.ext (s:RS):RX:=⟨s.r1,s.r2,s.r3,s.ht,s.hb,s.cb,s.lit,s.st0,s.st1,s.st2,s.sb0,s.sb1,s.sb2,s.tb0,s.tb1,s.tb2,s.fs⟩
structure PS (E:Type) where
 pos:Nat
 saw:Bool
 sum:Bool
 one:Bool
 unk:Bool
 rem:Nat
 S:Nat->Nat
 bl:Nat
 off:Nat
 L:Nat->Nat
 wl:Nat
 wsz:Nat
 XT:Nat->Nat
 XN:Nat
 e:E
def dB (dat:Nat->Nat) (p:Nat):Nat:=dat p+dat (p+1)*256+dat (p+2)*65536
section
variable {E:Type} (dat:Nat->Nat) (N:Nat)
def cO (last:Bool) (p:PS E):PS E×Bool :=
 if p.unk=false/\p.rem<p.bl then(p,false) else
 let p1:PS E:={ p with rem:=if p.unk then p.rem else p.rem-p.bl,XT:=if p.sum then cB p.XT p.XN p.S else p.XT,XN:=if p.sum then p.XN+p.bl else p.XN }
 if last=false then({ p1 with L:=l_ p.wsz p.wl p.L p.bl p.S,wl:=min p.wsz (p.wl+p.bl) },true)
 else if p.unk=false/\p1.rem≠0 then(p1,false)
 else if p.sum=false then({ p1 with saw:=false },true)
 else if N-p.pos<4 then({ p1 with pos:=N },false)
 else if eX (fun i=>dat (p.pos+i))=gw p1.XT p1.XN%4294967296 then({ p1 with pos:=p.pos+4,saw:=false },true)
 else({ p1 with pos:=p.pos+4 },false)
def cD (cmp:PS E->Nat->PS E×Bool) (p:PS E):PS E×Bool :=
 if N-p.pos<3 then({ p with pos:=N },false) else
 let h:=dB dat p.pos
 let p1:PS E:={ p with pos:=p.pos+3 }
 let size:=h/8
 if 131072<size\/(0<p.wsz/\p.wsz<size) then(p1,false) else
 if h/2%4=0 then
  let k:=min size (N-p1.pos)
  let p2:PS E:={ p1 with pos:=p1.pos+k,S:=ov p.S k dat p1.pos,bl:=size }
  if k<size then(p2,false) else cO dat N (decide (h%2≠0)) p2
 else if h/2%4=1 then
  if N-p1.pos<1 then({ p1 with bl:=size },false)
  else cO dat N (decide (h%2≠0)) { p1 with pos:=p1.pos+1,S:=fun i=>if i<size then dat p1.pos else p.S i,bl:=size }
 else if h/2%4=2 then
  let r:=cmp p1 size
  if r.2 then cO dat N (decide (h%2≠0)) r.1 else r
 else(p1,false)
end
def jV {G:ao} {S:bN G} {dat:Nat->Nat} {N:Nat} (src:dn S dat N) {E:Type} (dz:E->RX->ao->Prop) (j:Nat) (p:PS E) (m:ao):Prop :=
 ∃x s q g h em,m=(j,az x s)::(src.mem q++(g++(h++em)))/\src.ok q/\src.pos q=p.pos/\s.rv = .iface src.t src.rv/\(∀i,s.scr i<256) /\
  (s.saw=p.saw/\s.sum=p.sum/\s.one=p.one/\s.unk=p.unk/\s.rem=p.rem/\s.off=p.off/\s.wsz=p.wsz)/\p.rem<dR/\(∀i,p.S i<256)/\p.bl<=2^30/\p.wsz<=2^30 /\
  fS s.buf p.bl p.S g/\nF s.wd p.wsz s.wo p.L p.wl h/\(p.sum=true->yr s p.XT p.XN)/\dz p.e s.ext em
end Go.Proofs.YtogmacnlpclgkaaGreatDoor
namespace Go.Proofs.YtogmacnlpclgkaaGreatDoor
open Go Go.Eng
attribute [local irreducible] RO J av aO
set_option maxRecDepth 4000
variable {G:ao} {S:bN G} {dat:Nat->Nat} {N:Nat}
theorem yt (src:dn S dat N) (h:ao) :
  av Tryz.prog G 91 #[.iface src.t src.rv,.slice none 0 0,.int .i64 0] h (fun v m=>m=h/\v=kI S 0 0):=by
 refine bE Tryz.func91 fun c h0 hex=>?_
 refine run _ ?_
 refine ac rfl (fun g=>absurd g aa) (fun _=>?_)
 refine run _ ?_
 refine mP (σ:=Unit) (fun _=>[(0,.iface src.t src.rv),(1,.slice none 0 0),(2,.int .i64 0),(6,.int .i64 0),(7,.nilIface)])
  (fun _=>h) (fun _=>True) (fun _=>0) () cF (.refl _) trivial ?_
 rintro _ f _
 refine run _ ?_
 refine ac rfl (fun hg=>?_) (fun hl=>absurd hl (by simp))
 refine run _ ?_
 exact af (ag [6,7] ⟨rfl,(eE (aZ _)).symm⟩)
theorem Fs (src:dn S dat N) (g:ao) :
  av Tryz.prog G 75 #[.iface src.t src.rv,.slice none 0 0] g (fun v m=>m=g/\v=kI S 0 0):=by
 refine bE Tryz.func75 fun c h0 hex=>?_
 refine run _ ?_
 refine ae (yt src g) ?_
 rintro v m ⟨rfl,rfl⟩
 rw[eE (aZ 0)]
 refine aS _ ?_
 refine run _ ?_
 exact af (ag [4,5] ⟨rfl,rfl⟩)
theorem zP (src:dn S dat N) (j:src.σ) (v:Value) (size:Nat) (B:Nat->Nat) (y:ao) (dE:src.ok j) (hb:fS v size B y) (hs:size<=2^30) :
  av Tryz.prog G 75 #[.iface src.t src.rv,v] (y++src.mem j) (fun r m =>
   ∃q k p,src.ok q/\k=min size (N-src.pos j)/\src.pos q=src.pos j+k/\fS v size (ov B k dat (src.pos j)) p/\m=p++src.mem q/\r=kI S size k):=by
 rcases hb with⟨rfl,rfl,rfl,u⟩|⟨b,cap,Bk,rfl,rfl,hf,F,l,hg,u⟩
 ·refine(Fs src _).mono ?_
  rintro r m ⟨rfl,rfl⟩;exact⟨j,0,[],dE,aa,rfl,.inl ⟨rfl,rfl,rfl,fun i=>by rw[<- u i];unfold dw ov;rw[ah aa]⟩,rfl,rfl⟩
 ·refine(CZ src j b 0 size cap Bk dE hf aa l aa).mono ?_
  rintro r m ⟨q,k,H,z,C,rfl,rfl⟩;refine⟨q,k,[(b,mA Bk 0 k dat (src.pos j))],H,z,C,.inr ⟨b,cap,_,rfl,rfl,hf,F,l,fun i hi=>?_,fun i hi=>?_⟩,rfl,rfl⟩
  ·show cQ Bk.g 0 k (mz dat (src.pos j)) i=dw _ i
   unfold dw ov mz;by_cases h:i<k
   ·rw[bH _ _ _ _ _ aa aa,ai h,Nat.sub_zero]
   ·rw[aP _ _ _ _ _ aa,ah h,hg i hi];rfl
  ·rw[<- u i hi];unfold dw ov;rw[ah aa]
end Go.Proofs.YtogmacnlpclgkaaGreatDoor
