/- Texts 23. -/
import Derived.Test.YtogmacnlpclgkaaGreatDoorX22
set_option linter.all false
namespace Go.Proofs.YtogmacnlpclgkaaGreatDoor
open Go Go.Eng Go.Pz
attribute [local irreducible] RO J av aO
set_option maxRecDepth 20000
variable {G:ao} {d:Nat->Nat}
theorem fS.view {j:Option Addr} {n n' k:Nat} {S:Nat->Nat} {sm M:ao} (h:fS (.slice j n k) n' S sm) (hs:∀p∈sm,p∈M):aU M j n k S:=by
 rcases h with⟨g,u,l,r⟩|⟨b,cap,B,g,rfl,l,r,t,q,y⟩
 ·cases g;exact⟨aZ _,.inl ⟨rfl,rfl,rfl⟩⟩
 ·cases g;exact⟨t,.inr ⟨b,0,B,rfl,hs _ (by simp),fun _=>aa,fun i hi=>by rw[Nat.zero_add,q i aa];rfl⟩⟩
theorem Ih (p h:Nat) (j:bk) (k:ao) (x:Int) (s:RS) (i:Option Addr) (wl wcp:Nat) (g:s.wd = .slice i wl wcp) (l:wl<=2^27) :
  aO Tryz.prog G 113 #[.pointer (some ⟨h,14,none⟩)] ((p,j)::(h,az x s)::k) (.int .u32 (wl:Nat)):=by
 refine l8 Tryz.func113 fun c h0=>?_
 rw[<- s.wWin_self] at g ⊢
 generalize s.wd=wv at g ⊢
 have g:wv = .slice i wl wcp:=g
 subst g
 refine go ?_
 refine af ?_
 exact cL [2] rfl (post:=[]) (junk:=[]) (.refl _) rfl
def Dx (S:bN G) (p q:Nat) (x:Int) (s:RS) (l:bk) (u:Option Addr) (bl k:Nat) (r:Nat->Nat) (t:ao) (L:Nat->Nat) (wl o j:Nat) (v:Value) (m:ao):Prop :=
 if o=0\/bl<o/\wl<o-bl then dM S .z v/\m=(q,l)::(p,az x (s.wBuf (.slice u bl k)))::t
 else v = .nilIface/\∃h g i,fS (.slice h (bl+j) g) (bl+j) (iR r bl L wl o j) i/\m=(q,l)::(p,az x (s.wBuf (.slice h (bl+j) g)))::i
structure MS where
 j:Nat
 oa:Option Addr
 cp:Nat
 bm:ao
set_option maxHeartbeats 4000000 in
theorem FO (S:bN G) (l u:Nat) (x:Int) (s:RS) (da:Option Addr) (n cp off start bits cnt:Nat) (V:off<2^32) (wa:Option Addr) (wl U:Nat) (ph:Nat->Nat) (al:s.wd = .slice wa wl U) (hv:aU G wa wl U ph) (am:s.wo<=wl) (ad:wl<=2^27) (B:Option Addr) (bl g:Nat) (K:Nat->Nat) (C:ao) (hb:fS (.slice B bl g) bl K C) (a2:bl<=2^28) (o ml:Nat) (ho:o<2^32) (a8:ml<=2^28) :
  av Tryz.prog G 105 #[bf l,bf u,.int .u32 (o:Nat),.int .u32 (ml:Nat)] ((u,nG l da n cp off start bits cnt)::(l,az x (s.wBuf (.slice B bl g)))::C) (Dx S l u x s (nG l da n cp off start bits cnt) B bl g K C (jP ph s.wo wl) wl o ml):=by
 refine bE Tryz.func105 fun c h0 hex=>?_
 obtain⟨J,ab⟩:∃J,J=nG l da n cp off start bits cnt:=⟨_,rfl⟩
 rw[<- ab]
 have y:∀er,(o=0\/bl<o/\wl<o-bl)->dM S .z er->Dx S l u x s J B bl g K C (jP ph s.wo wl) wl o ml er ((u,J)::(l,az x (s.wBuf (.slice B bl g)))::C):=fun er h he=>by
  unfold Dx;rw[ai h];exact⟨he,rfl⟩
 refine go ?_
 refine ac rfl (fun h=>?_) (fun a3=>?_)
 ·rw[ab] at y ⊢;refine go ?_;refine ae (iQ S u l x (s.wBuf (.slice B bl g)) da n cp off start bits cnt V _) ?_ (fm:=C) (hs:=.refl _)
  rintro v m ⟨⟨b',rfl⟩,rfl⟩;refine go ?_;exact af (ii [8] ((u,nG l da n cp off start bits cnt)::(l,az x (s.wBuf (.slice B bl g)))::C) (y _ (.inl aa) ⟨b',rfl⟩))
 refine go ?_
 refine bp (σ:=MS) [0] (fun t=>[(3,.int .u32 ((ml-t.j:Nat):Int)),(9,.int .u32 ((bl-o:Nat):Int))]) (fun t=>(u,J)::(l,az x (s.wBuf (.slice t.oa (bl+t.j) t.cp)))::t.bm) (fun t=>¬(o=0\/bl<o/\wl<o-bl)/\t.j<=ml/\fS (.slice t.oa (bl+t.j) t.cp) (bl+t.j) (iR K bl (jP ph s.wo wl) wl o t.j) t.bm/\(t.j<ml->∃q,0<q/\bl+t.j=bl-o+q*o)) ?_ ?_
 ·refine ac rfl (fun a7=>?_) (fun a6=>?_)
  ·refine go ?_;refine aA (Ih u l J C x (s.wBuf (.slice B bl g)) wa wl U al ad) ?_
   refine go ?_;refine ac rfl (fun a1=>?_) (fun a0=>?_)
   ·rw[ab] at y ⊢;refine go ?_;refine ae (iQ S u l x (s.wBuf (.slice B bl g)) da n cp off start bits cnt V _) ?_ (fm:=C) (hs:=.of_perm an)
    rintro v m ⟨⟨b',rfl⟩,rfl⟩;refine go ?_;exact af (ii [8] ((u,nG l da n cp off start bits cnt)::(l,az x (s.wBuf (.slice B bl g)))::C) (y _ (.inr aa) ⟨b',rfl⟩))
   refine go ?_;refine bp (σ:=Nat) [0,3,9,13] (fun t=>[(12,.int .u32 (t:Nat))]) (fun _=>(u,J)::(l,az x (s.wBuf (.slice B bl g)))::C) (fun t=>t=min ml (o-bl)) ?_ ?_
   ·refine ac rfl (fun h=>?_) (fun h=>?_)
    ·refine go ?_;exact⟨ml,aa,joined (.refl _)⟩
    ·refine go ?_;exact⟨o-bl,aa,joined (.refl _)⟩
   rintro k f hk;refine go ?_;refine ar (Dw l x (s.wBuf (.slice B bl g)) wa wl U ph al hv am ad (.slice B bl g) bl K C hb aa (wl-(o-bl)) (wl-(o-bl)+k) aa aa) ?_ (fm:=[(u,J)]) (hs:=.of_perm an)
   rintro v m ⟨bm',I,rfl⟩;have e:wl-(o-bl)+k-(wl-(o-bl))=k:=aa
   rw[e] at I;obtain⟨H,r,rfl⟩:=ky.form I;have e3:fj K bl k (fun i=>jP ph s.wo wl (wl-(o-bl)+i))=iR K bl (jP ph s.wo wl) wl o k:=by
    rw[zZ aa];exact nr fun i hi=>congrArg _ aa
   have I:fS (.slice H (bl+k) r) (bl+k) (fj K bl k (fun i=>jP ph s.wo wl (wl-(o-bl)+i))) bm':=I
   rw[e3] at I;refine go ?_;rw[show bl-o=0 from aa];exact⟨⟨k,H,r,bm'⟩,⟨aa,by dsimp only;omega,I,fun h=>⟨1,Nat.one_pos,by dsimp only at h ⊢;omega⟩⟩,joined (.cons rfl ci)⟩
  ·refine go ?_;exact⟨⟨0,B,g,C⟩,⟨aa,Nat.zero_le _,hb,fun _=>⟨1,Nat.one_pos,by dsimp only;omega⟩⟩,joined (.refl _)⟩
 rintro⟨j,F,p,M⟩ f ⟨g1,g2,W,g4⟩
 dsimp only at g2 W g4 ⊢
 refine go ?_
 refine aH (σ:=MS) [0] (fun t=>[(3,.int .u32 ((ml-t.j:Nat):Int)),(9,.int .u32 ((bl-o:Nat):Int))]) (fun t=>(u,J)::(l,az x (s.wBuf (.slice t.oa (bl+t.j) t.cp)))::t.bm) (fun t=>t.j<=ml/\fS (.slice t.oa (bl+t.j) t.cp) (bl+t.j) (iR K bl (jP ph s.wo wl) wl o t.j) t.bm/\(t.j<ml->∃q,0<q/\bl+t.j=bl-o+q*o)) (fun t=>ml-t.j) ⟨j,F,p,M⟩ (.refl _) ⟨g2,W,g4⟩ ?_
 clear g2 W g4
 rintro⟨j,F,p,M⟩ f ⟨g2,W,g4⟩
 dsimp only at g2 W g4 ⊢
 refine go ?_
 refine ac rfl (fun aw=>?_) (fun ax=>?_)
 ·refine go ?_;obtain⟨q,g5,g6⟩:=g4 aa;clear g4;have a4:bl+j-(bl-o)=q*o:=aa
  have a5:o<=q*o:=Nat.le_mul_of_pos_left o g5
  refine bp (σ:=Nat) [0,3,9] (fun t=>[(14,.int .u32 (t:Nat))]) (fun _=>(u,J)::(l,az x (s.wBuf (.slice F (bl+j) p)))::M) (fun t=>t=min (ml-j) (q*o)) ?_ ?_
  ·refine ac rfl (fun h=>?_) (fun h=>?_)
   ·refine go ?_;exact⟨ml-j,aa,joined (.refl _)⟩
   ·refine go ?_;exact⟨bl+j-(bl-o),aa,joined (.refl _)⟩
  rintro k f hk;have Y:aU M F (bl+j) p (iR K bl (jP ph s.wo wl) wl o j):=fS.view W fun _ h=>h
  refine go ?_;refine cT (bl-o) (bl-o+k) Y rfl rfl rfl rfl rfl rfl rfl aa (by have:=Y.le;omega) rfl ?_
  refine go ?_;refine lJ (fm:=[(u,J),(l,az x (s.wBuf (.slice F (bl+j) p)))]) rfl rfl rfl rfl z5 (by decide) rfl rfl W (an) rfl (aU.mono (Y.sub (show bl-o<=bl-o+k from aa) (show bl-o+k<=bl+j from aa)) fun _ hp=>List.mem_append.2 (.inl (.tail _ (.tail _ hp)))) aa hex rfl ?_
  intro H r sm O;have e:bl-o+k-(bl-o)=k:=aa
  rw[e] at O ⊢;have O:fS (.slice H (bl+j+k) r) (bl+j+k) (fj (iR K bl (jP ph s.wo wl) wl o j) (bl+j) k fun i=>iR K bl (jP ph s.wo wl) wl o j (bl-o+i)) sm:=O
  rw[<- FM (fr:=bl-o) (j:=j) (k:=k) (q:=q) (show 0<o from aa) rfl (show bl<=bl-o+o from aa) g5 g6 (show k<=q*o from aa),Nat.add_assoc] at O;refine go ?_;refine⟨⟨j+k,H,r,sm⟩,by dsimp only;omega,⟨by dsimp only;omega,O,fun h=>⟨q+q,aa,by dsimp only at h ⊢;rw[Nat.add_mul];omega⟩⟩,joined (hs:=⟨by show Value.int .u32 ((ml-j-k:Nat):Int) = .int .u32 ((ml-(j+k):Nat):Int);rw[Nat.sub_sub],rfl,rfl,trivial⟩) (.cons rfl (.cons (B':=az x (s.wBuf (.slice H (bl+(j+k)) r))) (by rw[<- Nat.add_assoc];exact aW rfl rfl rfl rfl) (.refl _)))⟩
 ·obtain rfl:j=ml:=aa;refine go ?_;refine af ?_;refine ag [8] (post:=(u,J)::(l,az x (s.wBuf (.slice F (bl+j) p)))::M) (junk:=[]) ?_ rfl (.of_perm an)
  unfold Dx;rw[ah g1];exact⟨rfl,_,_,_,W,rfl⟩
structure n_ (kind:Nat) (T:eQ):Prop where
 log:T.log<=9
 more:∀p,p<2^T.log->(T.cell p).more<=31/\(T.cell p).base+2^(T.cell p).more<=4294967296
 next:∀p,p<2^T.log->(T.cell p).bits<=9/\(T.cell p).next+2^(T.cell p).bits<=2^T.log
 off:∀p,p<2^T.log->kind=1->(T.cell p).more<=1->(T.cell p).base<=2
 mat:∀p,p<2^T.log->kind=2->(T.cell p).base+2^(T.cell p).more<=262144
def sN (G:ao) (st:Value) (sb:Nat) (T:eQ):Prop:=sb=T.log/\∃b c B,st = .slice (bi b) (2^T.log) c/\(b,B)∈G/\v7 B.g (2^T.log) T.cell/\2^T.log*4<=B.n
theorem oh {m:ao} {b:Nat} {B:bk} (h:(b,B)∈m):ye m b B:=by
 induction m with
 | nil=>cases h
 | cons p m g=>cases h with
  | head=>exact .here
  | tail _ h=>exact .there (g h)
section
variable {P:Program} [ty:bA P] {qs:List FuncId} {c:World} {n:Nat} {h0:dx} {ops:Array Oper} {Q:Fr->ao->Prop} {rest:List Oper} {f:Fr} {m:ao}
variable {dd:Option Tmp} {T T' tt:TypeId} {pos:String} {aft:Array Edge}
theorem gr {x:Operand} {b o p j L:Nat} {B:bk} {cl:Nat->sI} {v:Value} (hB:ye G b B) (hg:v7 B.g L cl) (t:L*4<=B.n) (hx:ev f x = .pointer (some ⟨b,o,none⟩)) (r:lS (bA.tk P T)=true) (i:p<L) (l:j<4) (k:o=p*4+j) (q:ct (gi (cl p)) j=v) (hd:aE n dd=true)
  (h:RO P G qs c n h0 ops Q rest (aV f dd v) m):RO P G qs c n h0 ops Q (⟨dd,.load T x,tt,pos,aft,none⟩::rest) f m:=by
 refine AV hx r hB (show o<B.n from aa) ?_ hd h
 rw[k,hg p i j l,q]
omit ty in
theorem Dy {x y:Operand} {r:Nat} (hx:ev f x = .int .u32 (r:Nat)) (g:ev f y = .int .u32 1) (i:r<4294967296) (hd:aE n dd=true)
  (h:RO P G qs c n h0 ops Q rest (aV f dd (.int .u32 (((r+4294967295)%4294967296:Nat):Int))) m):RO P G qs c n h0 ops Q (⟨dd,.binOp .sub T x y T',tt,pos,aft,none⟩::rest) f m:=by
 refine dq hx g rfl hd ?_
 cases r with
 | zero=>exact h
 | succ r =>
  rw[show((r+1:Nat):Int)-1=((r:Nat):Int) from aa,r6 rfl,show r%2^IntKind.u32.bits=(r+1+4294967295)%4294967296 by show r%4294967296=_;omega]
  exact h
end
abbrev RS.wXT (s:RS) (b0 c0 h c1 j c2 i p l2 k0 g l:Nat) (k:Option Addr) (bl q r1 r2 r3:Nat):RS:={ s with buf:=.slice k bl q,r1:=r1,r2:=r2,r3:=r3,st0:=.slice (bi b0) i c0,st1:=.slice (bi h) p c1,st2:=.slice (bi j) l2 c2,sb0:=k0,sb1:=g,sb2:=l }
abbrev RS.wX (s:RS) (g:Option Addr) (bl h r1 r2 r3:Nat):RS:={ s with buf:=.slice g bl h,r1:=r1,r2:=r2,r3:=r3 }
def JP (S:bN G) (j:Nat) (x:Int) (s:RS) (R:XS×Bool) (v:Value) (m:ao):Prop :=
 ∃g i h,fS (.slice g R.1.bl i) R.1.bl R.1.S h/\m=(j,az x (s.wX g R.1.bl i R.1.r1 R.1.r2 R.1.r3))::h/\if R.2 then v = .nilIface else dM S .z v
structure LS where
 i:Nat
 x:XS
 B:Nat
 oa:Option Addr
 cp:Nat
 bm:ao
 la:Option Addr
 lc:Nat
set_option maxHeartbeats 8000000 in
theorem Ii (S:bN G) (r:Nat) (x:Int) (s:RS) (W:Option Addr) (n H:Nat) (hd:∀i,d i<256) (hv:aU G W n H d) (hn:n<=2^20) (hT:0<n) (off:Nat) (hM:off<=n)
  (T0 T1 T2:eQ) (e:CE) (e6:e.t0=some T0) (gs:e.t1=some T1) (fn:e.t2=some T2) (hc:s.r1=e.r1) (hr:s.r2=e.r2) (hh:s.r3=e.r3) (cl:e.r1<4294967296/\e.r2<4294967296/\e.r3<4294967296) (o0:n_ 0 T0) (o1:n_ 1 T1) (o2:n_ 2 T2) (K:sN G s.st0 s.sb0 T0) (v1:sN G s.st1 s.sb1 T1) (v2:sN G s.st2 s.sb2 T2)
  (wa:Option Addr) (wl ch:Nat) (ph:Nat->Nat) (fk:s.wd = .slice wa wl ch) (hw:aU G wa wl ch ph) (hB:s.wo<=wl) (br:wl<=2^27)
  (la:Option Addr) (ll lc:Nat) (LT:Nat->Nat) (hl:aU G la ll lc LT) (hP:ll<=2^20) (cnt:Nat) (bW:cnt<=2^20)
  (u:Option Addr) (q:Nat) (Sx:Nat->Nat) (bm:ao) (c5:s.buf = .slice u 0 q) (hb:fS (.slice u 0 q) 0 Sx bm) :
  av Tryz.prog G 96 #[bf r,.slice W n H,ay off,.slice la ll lc,ay cnt] ((r,az x s)::bm) (JP S r x s (eu e d n off cnt (jP ph s.wo wl) wl LT ll Sx)):=by
 refine bE Tryz.func96 fun c h0 hex=>?_
 obtain⟨e0,b0,c0,B0,e1,g0,q0,k0⟩:=K
 obtain⟨e2,C,c1,B1,e3,g1,q1,k1⟩:=v1
 obtain⟨e4,F,c2,B2,e5,g2,q2,k2⟩:=v2
 have hq:=o0.log
 have he:=o1.log
 have hx:=o2.log
 have b4:∀u bl H I M r3,s.wX u bl H I M r3=s.wXT b0 c0 C c1 F c2 (2^T0.log) (2^T1.log) (2^T2.log) T0.log T1.log T2.log u bl H I M r3:=fun u bl H I M r3=>by
  unfold RS.wX RS.wXT;rw[<- e1,<- e3,<- e5,<- e0,<- e2,<- e4]
 have hs:s=s.wX u 0 q e.r1 e.r2 e.r3:=by
  unfold RS.wX;rw[<- c5,<- hc,<- hr,<- hh]
 obtain⟨l0,bc⟩:∃l,l=2^T0.log:=⟨_,rfl⟩
 obtain⟨l1,a8⟩:∃l,l=2^T1.log:=⟨_,rfl⟩
 obtain⟨l2,a5⟩:∃l,l=2^T2.log:=⟨_,rfl⟩
 rw[<- bc,<- a8,<- a5] at b4
 rw[<- bc] at q0 k0
 rw[<- a8] at q1 k1
 rw[<- a5] at q2 k2
 have cS:=o0.more
 have d3:=o1.more
 have eo:=o2.more
 have ee:=o0.next
 have hx1:=o1.next
 have d8:=o2.next
 rw[<- bc] at cS ee
 rw[<- a8] at d3 hx1
 rw[<- a5] at eo d8
 have hV:l0<=512:=by rw[bc];exact Nat.pow_le_pow_right (n:=2) (j:=9) aa hq
 have h6:l1<=512:=by rw[a8];exact Nat.pow_le_pow_right (n:=2) (j:=9) aa he
 have hZ:l2<=512:=by rw[a5];exact Nat.pow_le_pow_right (n:=2) (j:=9) aa hx
 have hi:∀p,p<l2->(T2.cell p).base+2^(T2.cell p).more<=262144:=fun p hp=>o2.mat p (by rw[<- a5];exact hp) rfl
 have fb:∀p,p<l1->(T1.cell p).more<=1->(T1.cell p).base<=2:=fun p hp=>o1.off p (by rw[<- a8];exact hp) rfl
 have g0:=oh g0
 have g1:=oh g1
 have g2:=oh g2
 obtain⟨L,hL⟩:∃L,L=jP ph s.wo wl:=⟨_,rfl⟩
 rw[<- hL]
 obtain⟨R,hR⟩:∃R,R=eu e d n off cnt L wl LT ll Sx:=⟨_,rfl⟩
 rw[<- hR]
 have U:∀(y:XS) u H bm v,R=(y,false)->fS (.slice u y.bl H) y.bl y.S bm->dM S .z v->JP S r x s R v ((r,az x (s.wXT b0 c0 C c1 F c2 l0 l1 l2 T0.log T1.log T2.log u y.bl H y.r1 y.r2 y.r3))::bm):=fun y u H bm v h0 h1 h2=>by
  rw[h0];exact⟨u,H,bm,h1,by rw[b4],h2⟩
 have cq:∀(y:XS) u H bm,R=(y,true)->fS (.slice u y.bl H) y.bl y.S bm->JP S r x s R .nilIface ((r,az x (s.wXT b0 c0 C c1 F c2 l0 l1 l2 T0.log T1.log T2.log u y.bl H y.r1 y.r2 y.r3))::bm):=fun y u H bm h0 h1=>by
  rw[h0];exact⟨u,H,bm,h1,by rw[b4],rfl⟩
 have h7:∀u bl H I M r3,(s.wXT b0 c0 C c1 F c2 l0 l1 l2 T0.log T1.log T2.log u bl H I M r3).wo=s.wo:=fun _ _ _ _ _ _=>rfl
 obtain⟨a,ha⟩:∃a,a=dU d (n-1):=⟨_,rfl⟩
 have hE:R=if d (n-1)=0 then(⟨e.r1,e.r2,e.r3,Sx,0,0,a-T0.log-T1.log-T2.log,dQ d a T0.log,dQ d (a-T0.log) T1.log,dQ d (a-T0.log-T1.log) T2.log⟩,false)
   else if ¬jM off a T0.log then(⟨e.r1,e.r2,e.r3,Sx,0,0,a-T0.log-T1.log-T2.log,dQ d a T0.log,dQ d (a-T0.log) T1.log,dQ d (a-T0.log-T1.log) T2.log⟩,false)
   else if ¬jM off (a-T0.log) T1.log then(⟨e.r1,e.r2,e.r3,Sx,0,0,a-T0.log-T1.log-T2.log,dQ d a T0.log,dQ d (a-T0.log) T1.log,dQ d (a-T0.log-T1.log) T2.log⟩,false)
   else if ¬jM off (a-T0.log-T1.log) T2.log then(⟨e.r1,e.r2,e.r3,Sx,0,0,a-T0.log-T1.log-T2.log,dQ d a T0.log,dQ d (a-T0.log) T1.log,dQ d (a-T0.log-T1.log) T2.log⟩,false)
   else if(dy T0 T1 T2 d off L wl LT ll cnt ⟨e.r1,e.r2,e.r3,Sx,0,0,a-T0.log-T1.log-T2.log,dQ d a T0.log,dQ d (a-T0.log) T1.log,dQ d (a-T0.log-T1.log) T2.log⟩).2=false then dy T0 T1 T2 d off L wl LT ll cnt ⟨e.r1,e.r2,e.r3,Sx,0,0,a-T0.log-T1.log-T2.log,dQ d a T0.log,dQ d (a-T0.log) T1.log,dQ d (a-T0.log-T1.log) T2.log⟩
   else({ (dy T0 T1 T2 d off L wl LT ll cnt ⟨e.r1,e.r2,e.r3,Sx,0,0,a-T0.log-T1.log-T2.log,dQ d a T0.log,dQ d (a-T0.log) T1.log,dQ d (a-T0.log-T1.log) T2.log⟩).1 with S:=fj (dy T0 T1 T2 d off L wl LT ll cnt ⟨e.r1,e.r2,e.r3,Sx,0,0,a-T0.log-T1.log-T2.log,dQ d a T0.log,dQ d (a-T0.log) T1.log,dQ d (a-T0.log-T1.log) T2.log⟩).1.S (dy T0 T1 T2 d off L wl LT ll cnt ⟨e.r1,e.r2,e.r3,Sx,0,0,a-T0.log-T1.log-T2.log,dQ d a T0.log,dQ d (a-T0.log) T1.log,dQ d (a-T0.log-T1.log) T2.log⟩).1.bl (ll-(dy T0 T1 T2 d off L wl LT ll cnt ⟨e.r1,e.r2,e.r3,Sx,0,0,a-T0.log-T1.log-T2.log,dQ d a T0.log,dQ d (a-T0.log) T1.log,dQ d (a-T0.log-T1.log) T2.log⟩).1.lo) fun i=>LT ((dy T0 T1 T2 d off L wl LT ll cnt ⟨e.r1,e.r2,e.r3,Sx,0,0,a-T0.log-T1.log-T2.log,dQ d a T0.log,dQ d (a-T0.log) T1.log,dQ d (a-T0.log-T1.log) T2.log⟩).1.lo+i),bl:=(dy T0 T1 T2 d off L wl LT ll cnt ⟨e.r1,e.r2,e.r3,Sx,0,0,a-T0.log-T1.log-T2.log,dQ d a T0.log,dQ d (a-T0.log) T1.log,dQ d (a-T0.log-T1.log) T2.log⟩).1.bl+(ll-(dy T0 T1 T2 d off L wl LT ll cnt ⟨e.r1,e.r2,e.r3,Sx,0,0,a-T0.log-T1.log-T2.log,dQ d a T0.log,dQ d (a-T0.log) T1.log,dQ d (a-T0.log-T1.log) T2.log⟩).1.lo) },decide ((dy T0 T1 T2 d off L wl LT ll cnt ⟨e.r1,e.r2,e.r3,Sx,0,0,a-T0.log-T1.log-T2.log,dQ d a T0.log,dQ d (a-T0.log) T1.log,dQ d (a-T0.log-T1.log) T2.log⟩).1.a%8=0)):=by
  rw[hR,ha];unfold eu;rw[e6,gs,fn];rfl
 obtain⟨O,V⟩:∃X:XS,X=⟨e.r1,e.r2,e.r3,Sx,0,0,a-T0.log-T1.log-T2.log,dQ d a T0.log,dQ d (a-T0.log) T1.log,dQ d (a-T0.log-T1.log) T2.log⟩:=⟨_,rfl⟩
 rw[<- V] at hE
 have ce:fS (.slice u O.bl q) O.bl O.S bm:=by rw[V];exact hb
 have ad:∀v,R=(O,false)->dM S .z v->JP S r x s R v ((r,az x (s.wXT b0 c0 C c1 F c2 l0 l1 l2 T0.log T1.log T2.log u 0 q e.r1 e.r2 e.r3))::bm):=fun v h1 h2=>by
  have:=U O u q bm v h1 ce h2
  rw[V] at this;exact this
 rw[show az x s=az x (s.wXT b0 c0 C c1 F c2 l0 l1 l2 T0.log T1.log T2.log u 0 q e.r1 e.r2 e.r3) from congrArg _ (hs.trans (b4 _ _ _ _ _ _))]
 refine go ?_
 refine ae (n6 S r x (s.wXT b0 c0 C c1 F c2 l0 l1 l2 T0.log T1.log T2.log u 0 q e.r1 e.r2 e.r3) W n H hd hv hn (n-1) off aa aa) ?_ (fm:=bm) (hs:=.of_perm an)
 rintro v m ⟨rfl,a6⟩
 by_cases hz:d (n-1)=0
 ·rw[ai hz] at a6 hE;obtain⟨er,rfl,⟨b',rfl⟩⟩:=a6;refine go ?_;refine aC z191 rfl hex fun J hC=>?_
  refine go ?_;refine ak (s:=5) (vs:=[.pointer none,.slice none 0 0,.int .u32 0,.int .u32 0,.int .u32 0,.int .u32 0]) rfl rfl rfl rfl (cC rfl) .here (aZ 6) rfl hex ?_
  refine go ?_;exact af (cE [10] ((r,az x (s.wXT b0 c0 C c1 F c2 l0 l1 l2 T0.log T1.log T2.log u 0 q e.r1 e.r2 e.r3))::bm) (junk:=[(J,_)]) (ad _ hE ⟨b',rfl⟩) (.of_perm (List.perm_append_comm (l₁:=[_]) (l₂:=_::bm))))
 rw[ah hz] at a6 hE
 subst a6
 obtain⟨i1,i2,i3⟩:=iE.init (d:=d) hd hz
 have d7:a=8*(n-1)+Nat.log2 (d (n-1)):=ha
 rw[<- d7] at i1 i2 i3
 refine go ?_
 refine aC z191 rfl hex fun J hC=>?_
 refine go ?_
 refine ak (s:=5) (vs:=[bf r,.slice W n H,.int .u32 ((n-1:Nat):Int),.int .u32 (off:Nat),.int .u32 (d (n-1):Nat),.int .u32 (Nat.log2 (d (n-1)):Nat)]) rfl rfl rfl rfl (cC rfl) .here (aZ 6) rfl hex ?_
 refine bj (m':=(J,tu r W n H off a (d (n-1)))::(r,az x (s.wXT b0 c0 C c1 F c2 l0 l1 l2 T0.log T1.log T2.log u 0 q e.r1 e.r2 e.r3))::bm) (.cons (by unfold tu;rw[i2,i3];exact aW rfl rfl rfl rfl) (.refl _)) ?_
 refine go ?_
 refine ae (jN S J r x (s.wXT b0 c0 C c1 F c2 l0 l1 l2 T0.log T1.log T2.log u 0 q e.r1 e.r2 e.r3) W n H hd hv hn a (d (n-1)) off T0.log i1 aa aa aa) ?_ (fm:=bm) (hs:=.refl _)
 rintro v m (⟨bo,rfl,d1,Ba,c3,cx,rfl⟩|⟨bo,⟨er,rfl,⟨b',rfl⟩⟩,o',B',k',am,rfl⟩)
 rotate_left
 ·rw[ai bo] at hE;refine go ?_;exact af (cE [10] ((r,az x (s.wXT b0 c0 C c1 F c2 l0 l1 l2 T0.log T1.log T2.log u 0 q e.r1 e.r2 e.r3))::bm) (junk:=[(J,_)]) (ad _ hE ⟨b',rfl⟩) (.of_perm (List.perm_append_comm (l₁:=[_]) (l₂:=_::bm))))
 rw[ah (not_not_intro bo)] at hE
 refine go ?_
 refine ae (jN S J r x (s.wXT b0 c0 C c1 F c2 l0 l1 l2 T0.log T1.log T2.log u 0 q e.r1 e.r2 e.r3) W n H hd hv hn (a-T0.log) Ba off T1.log c3 cx aa aa) ?_ (fm:=bm) (hs:=.refl _)
 rintro v m (⟨b8,rfl,ev,Bb,d2,c4,rfl⟩|⟨b8,⟨er,rfl,⟨b',rfl⟩⟩,o',B',k',am,rfl⟩)
 rotate_left
 ·rw[ai b8] at hE;refine go ?_;exact af (cE [10] ((r,az x (s.wXT b0 c0 C c1 F c2 l0 l1 l2 T0.log T1.log T2.log u 0 q e.r1 e.r2 e.r3))::bm) (junk:=[(J,_)]) (ad _ hE ⟨b',rfl⟩) (.of_perm (List.perm_append_comm (l₁:=[_]) (l₂:=_::bm))))
 rw[ah (not_not_intro b8)] at hE
 refine go ?_
 refine ae (jN S J r x (s.wXT b0 c0 C c1 F c2 l0 l1 l2 T0.log T1.log T2.log u 0 q e.r1 e.r2 e.r3) W n H hd hv hn (a-T0.log-T1.log) Bb off T2.log d2 c4 aa aa) ?_ (fm:=bm) (hs:=.refl _)
 rintro v m (⟨b3,rfl,cu,Bc,d6,c6,rfl⟩|⟨b3,⟨er,rfl,⟨b',rfl⟩⟩,o',B',k',am,rfl⟩)
 rotate_left
 ·rw[ai b3] at hE;refine go ?_;exact af (cE [10] ((r,az x (s.wXT b0 c0 C c1 F c2 l0 l1 l2 T0.log T1.log T2.log u 0 q e.r1 e.r2 e.r3))::bm) (junk:=[(J,_)]) (ad _ hE ⟨b',rfl⟩) (.of_perm (List.perm_append_comm (l₁:=[_]) (l₂:=_::bm))))
 rw[ah (not_not_intro b3)] at hE
 have dm:O.s0<l0:=by rw[V,bc];exact eS _ _ _
 have bq:O.s1<l1:=by rw[V,a8];exact eS _ _ _
 have eb:O.s2<l2:=by rw[V,a5];exact eS _ _ _
 have b9:iE d O.a (O.a%8) Bc:=by rw[V];exact d6
 have ca:O.a/8<=n:=by rw[V];exact c6
 have ex:dQ d a T0.log=O.s0:=by rw[V]
 have ea:dQ d (a-T0.log) T1.log=O.s1:=by rw[V]
 have dl:dQ d (a-T0.log-T1.log) T2.log=O.s2:=by rw[V]
 have cw:a-T0.log-T1.log-T2.log=O.a:=by rw[V]
 have et:O=⟨O.r1,O.r2,O.r3,Sx,0,0,O.a,O.s0,O.s1,O.s2⟩:=by rw[V]
 have ab:O.r1=e.r1/\O.r2=e.r2/\O.r3=e.r3:=by rw[V];exact⟨rfl,rfl,rfl⟩
 rw[ex,ea,dl,cw,<- ab.1,<- ab.2.1,<- ab.2.2]
 rw[<- ab.1,<- ab.2.1,<- ab.2.2] at cl
 clear ce ad ex ea dl cw ab i1 i2 i3 c3 d2 d6 cx c4 c6 d1 ev cu bo b8 b3 hz d7 ha hs
 refine go ?_
 refine aH (σ:=LS) [0,2,4,11] (fun t=>[(3,.slice t.la (ll-t.x.lo) t.lc),(13,.int .u32 (t.x.s0:Nat)),(14,.int .u32 (t.x.s1:Nat)),(15,.int .u32 (t.x.s2:Nat)),(16,ay t.i)]) (fun t=>(J,tu r W n H off t.x.a t.B)::(r,az x (s.wXT b0 c0 C c1 F c2 l0 l1 l2 T0.log T1.log T2.log t.oa t.x.bl t.cp t.x.r1 t.x.r2 t.x.r3))::t.bm) (fun t=>t.i<=cnt/\dy T0 T1 T2 d off L wl LT ll cnt O=dy T0 T1 T2 d off L wl LT ll (cnt-t.i) t.x/\fS (.slice t.oa t.x.bl t.cp) t.x.bl t.x.S t.bm/\iE d t.x.a (t.x.a%8) t.B/\t.x.a/8<=n/\(t.x.s0<l0/\t.x.s1<l1/\t.x.s2<l2)/\(t.x.r1<4294967296/\t.x.r2<4294967296/\t.x.r3<4294967296)/\t.x.lo<=ll/\aU G t.la (ll-t.x.lo) t.lc (fun i=>LT (t.x.lo+i))/\t.x.bl<=2^20) (fun t=>cnt-t.i) ⟨0,⟨O.r1,O.r2,O.r3,Sx,0,0,O.a,O.s0,O.s1,O.s2⟩,Bc,u,q,bm,la,lc⟩ (.refl _) ⟨Nat.zero_le _,by rw[<- et];rfl,hb,b9,ca,⟨dm,bq,eb⟩,cl,Nat.zero_le _,hl.congr fun i _=>by rw[Nat.zero_add],Nat.zero_le _⟩ ?_
 clear hb b9 ca dm bq eb cl et
 rintro⟨i,⟨I,M,r3,Sy,bl,lo,a,s0,s1,s2⟩,B,u,q,bm,la,lc⟩ f ⟨j1,j2,j3,j4,j5,⟨j6,j7,j8⟩,⟨j9,ax,a7⟩,ff,aw,hf⟩
 dsimp only at j1 j2 j3 j4 j5 j6 j7 j8 j9 ax a7 ff aw hf ⊢
 refine go ?_
 refine ac rfl (fun h5=>?_) (fun ic=>?_)
 rotate_left
 ·obtain rfl:i=cnt:=aa;rw[Nat.sub_self] at j2;rw[show dy T0 T1 T2 d off L wl LT ll 0 _=(_,true) from rfl] at j2;rw[j2,ah (fun h=>by cases h)] at hE
  dsimp only at hE;refine go ?_;refine lJ (fm:=[(J,tu r W n H off a B),(r,az x (s.wXT b0 c0 C c1 F c2 l0 l1 l2 T0.log T1.log T2.log u bl q I M r3))]) rfl rfl rfl rfl z5 (by decide) rfl rfl j3 (an) rfl aw.add aa hex rfl ?_
  intro a3 Y sm be;refine go ?_;refine bZ (m':=(r,az x (s.wXT b0 c0 C c1 F c2 l0 l1 l2 T0.log T1.log T2.log a3 (bl+(ll-lo)) Y I M r3))::sm++[(J,tu r W n H off a B)]) (aR.trans (m':=(J,tu r W n H off a B)::(r,az x (s.wXT b0 c0 C c1 F c2 l0 l1 l2 T0.log T1.log T2.log a3 (bl+(ll-lo)) Y I M r3))::sm) (.cons rfl ci) (.of_perm (List.perm_append_comm (l₁:=[_]) (l₂:=_::sm)))) ?_
  refine ac rfl (fun h8=>?_) (fun h8=>?_)
  ·rw[decide_eq_false (show ¬a%8=0 from aa)] at hE;refine go ?_;refine ae (c_ S r x (s.wXT b0 c0 C c1 F c2 l0 l1 l2 T0.log T1.log T2.log a3 (bl+(ll-lo)) Y I M r3) _ _) ?_ (fm:=sm++[(J,tu r W n H off a B)]) (hs:=.refl _)
   rintro v m ⟨⟨b',rfl⟩,rfl⟩;refine go ?_;exact af (ii [10] ((r,az x (s.wXT b0 c0 C c1 F c2 l0 l1 l2 T0.log T1.log T2.log a3 (bl+(ll-lo)) Y I M r3))::sm) (U _ _ _ _ _ hE be ⟨b',rfl⟩))
  ·rw[decide_eq_true (show a%8=0 from aa)] at hE;refine go ?_;exact af (ii [10] ((r,az x (s.wXT b0 c0 C c1 F c2 l0 l1 l2 T0.log T1.log T2.log a3 (bl+(ll-lo)) Y I M r3))::sm) (cq _ _ _ _ hE be))
 ·obtain⟨z0,bb⟩:∃z,z=T0.cell s0:=⟨_,rfl⟩
  obtain⟨z1,a0⟩:∃z,z=T1.cell s1:=⟨_,rfl⟩
  obtain⟨z2,a9⟩:∃z,z=T2.cell s2:=⟨_,rfl⟩
  obtain⟨k,hk⟩:∃k,k=cnt-i-1:=⟨_,rfl⟩
  have hg:cnt-i=k+1:=aa
  rw[hg] at j2;obtain⟨st,g⟩:∃st,st=iI T0 T1 T2 d off L wl LT ll (decide (k=0)) ⟨I,M,r3,Sy,bl,lo,a,s0,s1,s2⟩:=⟨_,rfl⟩
  have j2:dy T0 T1 T2 d off L wl LT ll cnt O=if st.2 then dy T0 T1 T2 d off L wl LT ll k st.1 else st:=by rw[j2,g];rfl
  have al:∀y,st=(y,false)->R=(y,false):=fun y hy=>by
   rw[hy] at j2;rw[ah (fun h=>by cases h)] at j2
   rw[hE,j2,ai rfl]
  have cc:∀y,st=(y,true)->dy T0 T1 T2 d off L wl LT ll cnt O=dy T0 T1 T2 d off L wl LT ll k y:=fun y hy=>by
   rw[hy,ai rfl] at j2;exact j2
  unfold iI at g;dsimp only at g;rw[<- bb,<- a0,<- a9] at g;have m0:=cS s0 j6
  have m1:=d3 s1 j7
  have m2:=eo s2 j8
  have mt:=hi s2 j8
  have dt:=fb s1 j7
  have x0:=ee s0 j6
  have x1:=hx1 s1 j7
  have x2:=d8 s2 j8
  rw[<- bb] at m0 x0;rw[<- a0] at m1 x1 dt;rw[<- a9] at m2 x2 mt;refine go ?_;refine ac rfl (fun hK=>?_) (fun hD=>?_)
  ·rw[ai aa] at g;refine go ?_;refine ae (iQ S J r x (s.wXT b0 c0 C c1 F c2 l0 l1 l2 T0.log T1.log T2.log u bl q I M r3) W n H (a/8) off B (a%8) aa _) ?_ (fm:=bm) (hs:=.refl _)
   rintro v m ⟨⟨b',rfl⟩,rfl⟩;refine go ?_;exact af (cE [10] ((r,az x (s.wXT b0 c0 C c1 F c2 l0 l1 l2 T0.log T1.log T2.log u bl q I M r3))::bm) (junk:=[(J,_)]) (U _ _ _ _ _ (al _ g) j3 ⟨b',rfl⟩) (.of_perm (List.perm_append_comm (l₁:=[_]) (l₂:=_::bm))))
  rw[ah aa] at g;refine go ?_;refine gr (j:=1) (v:=.int .u8 (z1.more:Nat)) g1 q1 k1 rfl rfl j7 (by decide) aa (by rw[<- a0];rfl) rfl ?_
  refine go ?_;have e8:=eS d (a) z1.more
  refine ae (jN S J r x (s.wXT b0 c0 C c1 F c2 l0 l1 l2 T0.log T1.log T2.log u bl q I M r3) W n H hd hv hn (a) B off z1.more j4 j5 aa aa) ?_ (fm:=bm) (hs:=.refl _)
  rintro v m (⟨bv,rfl,d5,B3,cs,ds,rfl⟩|⟨bv,⟨er,rfl,⟨b',rfl⟩⟩,o',B',k',am,rfl⟩)
  rotate_left
  ·rw[ai bv] at g;refine go ?_;exact af (cE [10] ((r,az x (s.wXT b0 c0 C c1 F c2 l0 l1 l2 T0.log T1.log T2.log u bl q I M r3))::bm) (junk:=[(J,_)]) (U _ _ _ _ _ (al _ g) j3 ⟨b',rfl⟩) (.of_perm (List.perm_append_comm (l₁:=[_]) (l₂:=_::bm))))
  rw[ah (not_not_intro bv)] at g;refine go ?_;refine gr (j:=0) (v:=.int .u32 (z1.base:Nat)) g1 q1 k1 rfl rfl j7 (by decide) aa (by rw[<- a0];rfl) rfl ?_
  refine go ?_;refine gr (j:=1) (v:=.int .u8 (z2.more:Nat)) g2 q2 k2 rfl rfl j8 (by decide) aa (by rw[<- a9];rfl) rfl ?_
  refine go ?_;have fc:=eS d (a-z1.more) z2.more
  refine ae (jN S J r x (s.wXT b0 c0 C c1 F c2 l0 l1 l2 T0.log T1.log T2.log u bl q I M r3) W n H hd hv hn (a-z1.more) B3 off z2.more cs ds aa aa) ?_ (fm:=bm) (hs:=.refl _)
  rintro v m (⟨bt,rfl,es,B4,c7,eB,rfl⟩|⟨bt,⟨er,rfl,⟨b',rfl⟩⟩,o',B',k',am,rfl⟩)
  rotate_left
  ·rw[ai bt] at g;refine go ?_;exact af (cE [10] ((r,az x (s.wXT b0 c0 C c1 F c2 l0 l1 l2 T0.log T1.log T2.log u bl q I M r3))::bm) (junk:=[(J,_)]) (U _ _ _ _ _ (al _ g) j3 ⟨b',rfl⟩) (.of_perm (List.perm_append_comm (l₁:=[_]) (l₂:=_::bm))))
  rw[ah (not_not_intro bt)] at g;refine go ?_;refine gr (j:=0) (v:=.int .u32 (z2.base:Nat)) g2 q2 k2 rfl rfl j8 (by decide) aa (by rw[<- a9];rfl) rfl ?_
  refine go ?_;refine gr (j:=1) (v:=.int .u8 (z0.more:Nat)) g0 q0 k0 rfl rfl j6 (by decide) aa (by rw[<- bb];rfl) rfl ?_
  refine go ?_;have e7:=eS d (a-z1.more-z2.more) z0.more
  refine ae (jN S J r x (s.wXT b0 c0 C c1 F c2 l0 l1 l2 T0.log T1.log T2.log u bl q I M r3) W n H hd hv hn (a-z1.more-z2.more) B4 off z0.more c7 eB aa aa) ?_ (fm:=bm) (hs:=.refl _)
  rintro v m (⟨b5,rfl,ec,B5,b6,bs,rfl⟩|⟨b5,⟨er,rfl,⟨b',rfl⟩⟩,o',B',k',am,rfl⟩)
  rotate_left
  ·rw[ai b5] at g;refine go ?_;exact af (cE [10] ((r,az x (s.wXT b0 c0 C c1 F c2 l0 l1 l2 T0.log T1.log T2.log u bl q I M r3))::bm) (junk:=[(J,_)]) (U _ _ _ _ _ (al _ g) j3 ⟨b',rfl⟩) (.of_perm (List.perm_append_comm (l₁:=[_]) (l₂:=_::bm))))
  rw[ah (not_not_intro b5)] at g;refine go ?_;refine gr (j:=0) (v:=.int .u32 (z0.base:Nat)) g0 q0 k0 rfl rfl j6 (by decide) aa (by rw[<- bb];rfl) rfl ?_
  refine go ?_;refine gr (j:=1) (v:=.int .u8 (z1.more:Nat)) g1 q1 k1 rfl rfl j7 (by decide) aa (by rw[<- a0];rfl) rfl ?_
  refine go ?_;obtain⟨v1,hu⟩:∃w,w=z1.base+dQ d a z1.more:=⟨_,rfl⟩
  obtain⟨v2,a6⟩:∃w,w=z2.base+dQ d (a-z1.more) z2.more:=⟨_,rfl⟩
  obtain⟨K,hj⟩:∃w,w=z0.base+dQ d (a-z1.more-z2.more) z0.more:=⟨_,rfl⟩
  rw[<- hu,<- a6,<- hj] at g ⊢;have eL:v1<4294967296:=aa
  have be:v2<262144:=aa
  have ce:K<4294967296:=aa
  have bq:z1.more<=1->v1<=3:=fun h=>by
   have:=dt h
   have h2:2^z1.more<=2^1:=Nat.pow_le_pow_right aa h
   omega
  obtain⟨a1,cr⟩:∃w,w=a-z1.more-z2.more-z0.more:=⟨_,rfl⟩
  rw[<- cr] at g b6 bs ⊢;refine bp (σ:=Nat×Nat×Nat×Nat) [0,2,3,4,11,13,14,15,16,17,18,19,23,24] (fun t=>[(22,.int .u32 (t.1:Nat))]) (fun t=>(J,tu r W n H off a1 B5)::(r,az x (s.wXT b0 c0 C c1 F c2 l0 l1 l2 T0.log T1.log T2.log u bl q t.2.1 t.2.2.1 t.2.2.2))::bm) (fun t=>t=mI z1.more v1 K I M r3/\t.1<4294967296/\t.2.1<4294967296/\t.2.2.1<4294967296/\t.2.2.2<4294967296) ?_ ?_
  ·refine ac rfl (fun hm=>?_) (fun hm=>?_)
   ·refine go ?_;exact⟨(v1,v1,I,M),⟨by unfold mI;rw[ai aa],eL,eL,j9,ax⟩,joined (.cons rfl ci)⟩
   ·have hF:=bq aa
    refine go ?_;refine bp (σ:=Nat) [0,2,3,4,11,13,14,15,16,17,18,19,23,24] (fun t=>[(22,.int .u32 (t:Nat))]) (fun t=>(J,tu r W n H off a1 B5)::(r,az x (s.wXT b0 c0 C c1 F c2 l0 l1 l2 T0.log T1.log T2.log u bl q I M r3))::bm) (fun t=>t=v1+if K=0 then 1 else 0) ?_ ?_
    ·refine ac rfl (fun h=>?_) (fun h=>?_)
     ·refine go ?_;exact⟨v1+1,by rw[ai aa],joined (.refl _)⟩
     ·refine go ?_;exact⟨v1,by rw[ah aa];rfl,joined (.refl _)⟩
    rintro t f ht;have ba:mI z1.more v1 K I M r3=if t=1 then(I,I,M,r3)
      else if t=2 then(M,M,I,r3)
      else if t=3 then(r3,r3,I,M)
      else if t=4 then((I+4294967295)%4294967296,(I+4294967295)%4294967296,I,M)
      else(t,I,M,r3):=by
     unfold mI;rw[ah aa,ht]
    have h9:t<=4:=by rw[ht];split<;>omega
    clear ht;refine go ?_;refine ac rfl (fun h=>?_) (fun h1=>?_)
    ·refine go ?_;exact⟨(I,I,M,r3),⟨by rw[ba,ai aa],j9,j9,ax,a7⟩,joined (.refl _)⟩
    refine go ?_;refine ac rfl (fun h=>?_) (fun h2=>?_)
    ·refine go ?_;exact⟨(M,M,I,r3),⟨by rw[ba,ah aa,ai aa],ax,ax,j9,a7⟩,joined (.cons rfl ci)⟩
    refine go ?_;refine ac rfl (fun h=>?_) (fun h3=>?_)
    ·refine go ?_;exact⟨(r3,r3,I,M),⟨by rw[ba,ah aa,ah aa,ai aa],a7,a7,j9,ax⟩,joined (.cons rfl ci)⟩
    refine go ?_;refine ac rfl (fun h=>?_) (fun h4=>?_)
    ·refine JN ?_;refine Dy rfl rfl j9 rfl ?_
     obtain⟨w,hw⟩:∃w,w=(I+4294967295)%4294967296:=⟨_,rfl⟩
     have br:w<4294967296:=aa
     rw[<- hw] at ba ⊢;refine go ?_;exact⟨(w,w,I,M),⟨by rw[ba,ah aa,ah aa,ah aa,ai aa],br,br,j9,ax⟩,joined (.cons rfl ci)⟩
    ·refine go ?_;exact⟨(t,I,M,r3),⟨by rw[ba,ah aa,ah aa,ah aa,ah aa],by dsimp only;omega,j9,ax,a7⟩,joined (.refl _)⟩
  rintro⟨o,p1,p2,p3⟩ f ⟨hp,p4,p5,p6,p7⟩;dsimp only at p4 p5 p6 p7;rw[<- hp] at g;dsimp only at g ⊢;refine go ?_;refine bp (σ:=Nat×Nat×Nat×Nat×Nat) [0,2,3,4,11,16,22,23,24] (fun t=>[(13,.int .u32 (t.2.2.1:Nat)),(14,.int .u32 (t.2.2.2.1:Nat)),(15,.int .u32 (t.2.2.2.2:Nat))]) (fun t=>(J,tu r W n H off t.1 t.2.1)::(r,az x (s.wXT b0 c0 C c1 F c2 l0 l1 l2 T0.log T1.log T2.log u bl q p1 p2 p3))::bm) (fun t=>st=n8 L wl LT ll ⟨p1,p2,p3,Sy,bl,lo,t.1,t.2.2.1,t.2.2.2.1,t.2.2.2.2⟩ K o v2/\iE d t.1 (t.1%8) t.2.1/\t.1/8<=n/\t.2.2.1<l0/\t.2.2.2.1<l1/\t.2.2.2.2<l2) ?_ ?_
  ·refine ac rfl (fun hS=>?_) (fun hY=>?_)
   rotate_left
   ·rw[ai (decide_eq_true aa)] at g;refine go ?_;exact⟨(a1,B5,s0,s1,s2),⟨g,b6,bs,j6,j7,j8⟩,joined (.refl _)⟩
   rw[ah (fun h=>by have:=of_decide_eq_true h;omega)] at g
   refine go ?_;refine gr (j:=2) (v:=.int .u8 (z0.bits:Nat)) g0 q0 k0 rfl rfl j6 (by decide) aa (by rw[<- bb];rfl) rfl ?_
   refine go ?_;have hO:=eS d (a1) z0.bits
   refine ae (jN S J r x (s.wXT b0 c0 C c1 F c2 l0 l1 l2 T0.log T1.log T2.log u bl q p1 p2 p3) W n H hd hv hn (a1) B5 off z0.bits b6 bs aa aa) ?_ (fm:=bm) (hs:=.refl _)
   rintro v m (⟨cd,rfl,hH,B6,hA,fa,rfl⟩|⟨cd,⟨er,rfl,⟨b',rfl⟩⟩,o',B',k',am,rfl⟩)
   rotate_left
   ·rw[ai cd] at g;refine go ?_;exact af (cE [10] ((r,az x (s.wXT b0 c0 C c1 F c2 l0 l1 l2 T0.log T1.log T2.log u bl q p1 p2 p3))::bm) (junk:=[(J,_)]) (U _ _ _ _ _ (al _ g) j3 ⟨b',rfl⟩) (.of_perm (List.perm_append_comm (l₁:=[_]) (l₂:=_::bm))))
   rw[ah (not_not_intro cd)] at g;refine go ?_;refine gr (j:=3) (v:=.int .u16 (z0.next:Nat)) g0 q0 k0 rfl rfl j6 (by decide) aa (by rw[<- bb];rfl) rfl ?_
   refine go ?_;refine gr (j:=2) (v:=.int .u8 (z2.bits:Nat)) g2 q2 k2 rfl rfl j8 (by decide) aa (by rw[<- a9];rfl) rfl ?_
   refine go ?_;have hQ:=eS d (a1-z0.bits) z2.bits
   refine ae (jN S J r x (s.wXT b0 c0 C c1 F c2 l0 l1 l2 T0.log T1.log T2.log u bl q p1 p2 p3) W n H hd hv hn (a1-z0.bits) B6 off z2.bits hA fa aa aa) ?_ (fm:=bm) (hs:=.refl _)
   rintro v m (⟨cn,rfl,hN,B7,fz,fr,rfl⟩|⟨cn,⟨er,rfl,⟨b',rfl⟩⟩,o',B',k',am,rfl⟩)
   rotate_left
   ·rw[ai cn] at g;refine go ?_;exact af (cE [10] ((r,az x (s.wXT b0 c0 C c1 F c2 l0 l1 l2 T0.log T1.log T2.log u bl q p1 p2 p3))::bm) (junk:=[(J,_)]) (U _ _ _ _ _ (al _ g) j3 ⟨b',rfl⟩) (.of_perm (List.perm_append_comm (l₁:=[_]) (l₂:=_::bm))))
   rw[ah (not_not_intro cn)] at g;refine go ?_;refine gr (j:=3) (v:=.int .u16 (z2.next:Nat)) g2 q2 k2 rfl rfl j8 (by decide) aa (by rw[<- a9];rfl) rfl ?_
   refine go ?_;refine gr (j:=2) (v:=.int .u8 (z1.bits:Nat)) g1 q1 k1 rfl rfl j7 (by decide) aa (by rw[<- a0];rfl) rfl ?_
   refine go ?_;have hW:=eS d (a1-z0.bits-z2.bits) z1.bits
   refine ae (jN S J r x (s.wXT b0 c0 C c1 F c2 l0 l1 l2 T0.log T1.log T2.log u bl q p1 p2 p3) W n H hd hv hn (a1-z0.bits-z2.bits) B7 off z1.bits fz fr aa aa) ?_ (fm:=bm) (hs:=.refl _)
   rintro v m (⟨cm,rfl,hI,B8,fd,e9,rfl⟩|⟨cm,⟨er,rfl,⟨b',rfl⟩⟩,o',B',k',am,rfl⟩)
   rotate_left
   ·rw[ai cm] at g;refine go ?_;exact af (cE [10] ((r,az x (s.wXT b0 c0 C c1 F c2 l0 l1 l2 T0.log T1.log T2.log u bl q p1 p2 p3))::bm) (junk:=[(J,_)]) (U _ _ _ _ _ (al _ g) j3 ⟨b',rfl⟩) (.of_perm (List.perm_append_comm (l₁:=[_]) (l₂:=_::bm))))
   rw[ah (not_not_intro cm)] at g;refine go ?_;refine gr (j:=3) (v:=.int .u16 (z1.next:Nat)) g1 q1 k1 rfl rfl j7 (by decide) aa (by rw[<- a0];rfl) rfl ?_
   refine go ?_;exact⟨(a1-z0.bits-z2.bits-z1.bits,B8,z0.next+dQ d a1 z0.bits,z1.next+dQ d (a1-z0.bits-z2.bits) z1.bits,z2.next+dQ d (a1-z0.bits) z2.bits),⟨g,fd,e9,by dsimp only;omega,by dsimp only;omega,by dsimp only;omega⟩,joined (.refl _)⟩
  clear e8 fc e7 cs c7 b6 ds eB bs d5 es ec bv bt b5 cr j4 j5 j6 j7 j8 g;rintro⟨a2,B2,t0,t1,t2⟩ f ⟨g,y1,y2,y3,y4,y5⟩;dsimp only at g y1 y2 y3 y4 y5 ⊢;unfold n8 at g;dsimp only at g;refine go ?_;refine ac rfl (fun hX=>?_) (fun dE=>?_)
  ·rw[ai aa] at g;refine go ?_;refine ae (iQ S J r x (s.wXT b0 c0 C c1 F c2 l0 l1 l2 T0.log T1.log T2.log u bl q p1 p2 p3) W n H (a2/8) off B2 (a2%8) aa _) ?_ (fm:=bm) (hs:=.refl _)
   rintro v m ⟨⟨b',rfl⟩,rfl⟩;refine go ?_;exact af (cE [10] ((r,az x (s.wXT b0 c0 C c1 F c2 l0 l1 l2 T0.log T1.log T2.log u bl q p1 p2 p3))::bm) (junk:=[(J,_)]) (U _ _ _ _ _ (al _ g) j3 ⟨b',rfl⟩) (.of_perm (List.perm_append_comm (l₁:=[_]) (l₂:=_::bm))))
  rw[ah aa] at g;have ib:=aw.le
  refine go ?_;refine bp (σ:=Option Addr×Nat×ao×Option Addr×Nat) [0,2,4,11,13,14,15,16,22,23] (fun t=>[(3,.slice t.2.2.2.1 (ll-lo-K) t.2.2.2.2)]) (fun t=>(J,tu r W n H off a2 B2)::(r,az x (s.wXT b0 c0 C c1 F c2 l0 l1 l2 T0.log T1.log T2.log t.1 (bl+K) t.2.1 p1 p2 p3))::t.2.2.1) (fun t=>fS (.slice t.1 (bl+K) t.2.1) (bl+K) (fj Sy bl K fun i=>LT (lo+i)) t.2.2.1/\aU G t.2.2.2.1 (ll-lo-K) t.2.2.2.2 (fun i=>LT (lo+K+i))) ?_ ?_
  ·refine ac rfl (fun cN=>?_) (fun c8=>?_)
   ·refine go ?_;refine fu K aw rfl rfl rfl rfl rfl aa rfl ?_
    refine go ?_;refine lJ (fm:=[(J,tu r W n H off a2 B2),(r,az x (s.wXT b0 c0 C c1 F c2 l0 l1 l2 T0.log T1.log T2.log u bl q p1 p2 p3))]) rfl rfl rfl rfl z5 (by decide) rfl rfl j3 (an) rfl (aw.cut (show K<=ll-lo from aa)).add aa hex rfl ?_
    intro a3 Y sm be;refine go ?_;refine cT K (ll-lo) aw rfl rfl rfl rfl rfl rfl rfl aa aa rfl ?_
    refine go ?_;exact⟨(a3,Y,sm,ek la K lc,lc-K),⟨be,(aw.sub (show K<=ll-lo from aa) (aZ _)).congr fun i _=>by rw[Nat.add_assoc]⟩,joined (.cons rfl ci)⟩
   ·have d0:K=0:=aa
    subst d0;refine go ?_;exact⟨(u,q,bm,la,lc),⟨by rw[pk];exact j3,aw⟩,joined (.refl _)⟩
  rintro⟨b7,a4,bu,eq,d4⟩ f ⟨u1,u2⟩;dsimp only at u1 u2 ⊢;rw[Nat.sub_sub] at u2 ⊢;refine go ?_;refine ac rfl (fun cN=>?_) (fun c8=>?_)
  ·rw[ah aa] at g;refine go ?_;refine ae (FO S r J x (s.wXT b0 c0 C c1 F c2 l0 l1 l2 T0.log T1.log T2.log b7 (bl+K) a4 p1 p2 p3) W n H (a2/8) off B2 (a2%8) aa wa wl ch ph fk hw hB br b7 (bl+K) a4 _ bu u1 aa o v2 p4 aa) ?_ (fm:=[]) (hs:=.of_perm (by rw[List.append_nil];exact .refl _))
   rintro v m bd;unfold Dx at bd;by_cases cb:o=0\/bl+K<o/\wl<o-(bl+K)
   ·rw[ai cb] at bd;obtain⟨⟨b',rfl⟩,rfl⟩:=bd;have g:st=(⟨p1,p2,p3,fj Sy bl K fun i=>LT (lo+i),bl+K,lo+K,a2,t0,t1,t2⟩,false):=by
     rw[g];by_cases dc:o=0
     ·rw[ai dc]
     ·rw[ah dc,ai aa]
    refine go ?_;exact af (cE [10] ((r,az x (s.wXT b0 c0 C c1 F c2 l0 l1 l2 T0.log T1.log T2.log b7 (bl+K) a4 p1 p2 p3))::bu) (junk:=[(J,_)]) (U _ _ _ _ _ (al _ g) u1 ⟨b',rfl⟩) (.of_perm (by rw[List.append_nil];exact List.perm_append_comm (l₁:=[_]) (l₂:=_::bu))))
   ·rw[ah cb] at bd;obtain⟨rfl,fl,eh,ho,u3,rfl⟩:=bd;rw[ah aa,ah aa] at g;refine go ?_;have g:st=(⟨p1,p2,p3,iR (fj Sy bl K fun i=>LT (lo+i)) (bl+K) (jP ph s.wo wl) wl o v2,bl+K+v2,lo+K,a2,t0,t1,t2⟩,true):=by rw[g,hL]
    exact⟨⟨i+1,⟨p1,p2,p3,_,bl+K+v2,lo+K,a2,t0,t1,t2⟩,B2,fl,eh,ho,eq,d4⟩,by dsimp only;omega,⟨by dsimp only;omega,by dsimp only;rw[show cnt-(i+1)=k from aa];exact cc _ g,u3,y1,y2,⟨y3,y4,y5⟩,⟨p5,p6,p7⟩,by dsimp only;omega,u2,by dsimp only;omega⟩,joined (.of_perm (by rw[List.append_nil];exact .refl _))⟩
  ·rw[ai aa] at g;refine go ?_;exact⟨⟨i+1,⟨p1,p2,p3,_,bl+K,lo+K,a2,t0,t1,t2⟩,B2,b7,a4,bu,eq,d4⟩,by dsimp only;omega,⟨by dsimp only;omega,by dsimp only;rw[show cnt-(i+1)=k from aa];exact cc _ g,u1,y1,y2,⟨y3,y4,y5⟩,⟨p5,p6,p7⟩,by dsimp only;omega,u2,by dsimp only;omega⟩,joined (.refl _)⟩
end Go.Proofs.YtogmacnlpclgkaaGreatDoor
