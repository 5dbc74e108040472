/- Texts L11KSlowAgrees. -/
import Derived.Test.YtogmacnlpclgkaaGreatDoorX38
import Derived.Test.YtogmacnlpclgkaaGreatDoorZL2
set_option linter.all false
namespace Go.Proofs.YtogmacnlpclgkaaGreatDoor
open Go Go.Eng Go.Pz
attribute [local irreducible] RO J av aO
set_option maxRecDepth 20000
variable {G:ao} {dat:Nat->Nat} {N:Nat}
theorem GG {P:Program} [ty:bA P] {T:TypeId} {w:World} {e:TypeId} {a:Option Addr} {l h:Nat} (g:bA.tk P T = .sl e):(Op.equal T (.slice a l h) (.slice none 0 0)).run P w = .ok a.isNone w:=eV fun k=>by
 cases a<;>simp[Op.equalIn,run_underlying (eR g)]
theorem GH {P:Program} [ty:bA P] {qs:List FuncId} {c:World} {n:Nat} {h0:dx} {ops:Array Oper} {Q:Fr->ao->Prop} {rest:List Oper} {f:Fr} {m:ao} {d:Option Tmp} {T T' tt:TypeId} {pos:String} {aft:Array Edge} {x y:Operand} {e:TypeId} {a:Option Addr} {l k:Nat} {r:Bool} (hx:ev f x = .slice a l k) (g:ev f y = .slice none 0 0) (j:bA.tk P T = .sl e) (i:a.isNone=r) (hd:aE n d=true)
  (h:RO P G qs c n h0 ops Q rest (aV f d (.bool r)) m):RO P G qs c n h0 ops Q (⟨d,.binOp .eql T x y T',tt,pos,aft,none⟩::rest) f m:=by
 refine dX (aZ _) rfl hd (fun _ t w q p=>⟨w,p,.inl ?_⟩) (fun h=>by cases h) h
 subst i
 simp[execOp,hx,g,eqGuard,binOp,GG j]
structure KN where
 pos:Nat
 va:Option Addr
 vc:Nat
 sm:ao
 za:Option Addr
 zn:Nat
 zc:Nat
 z:Nat->Int
 zm:ao
def IQ (l:Option Addr) (h j:Nat) (k:Option Addr) (g i:Nat):bk:=aj [.slice l h j,.slice k g i] 70
set_option maxHeartbeats 1000000 in
theorem GI (S:bN G) (dat:Nat->Nat) (N pb p:Nat) (J:Option Addr) (u:Nat) (sm:ao) (hs:dH 1 (.slice J (N-p) u) (N-p) (dw fun i=>dat (p+i)) sm) (hp:p<=N) (O:Option Addr) (I zc:Nat) (z:Nat->Int) (H:ao) (hz:dH 1 (.slice O I zc) I (je z) H)
  (b o len cap:Nat) (B:bk) (aw:B.fr=(0,0)) (ho:o+len<=B.n) (a5:len<=cap) :
  av Tryz.prog G 151 #[bf pb,.slice (some ⟨b,o,none⟩) len cap] ((b,B)::(pb,IQ J (N-p) u O I zc)::(sm++H)) (fun w m =>
   ∃Y U F y C z' k,dH 1 (.slice Y (N-(p+k)) U) (N-(p+k)) (dw fun i=>dat (p+k+i)) sm/\dH 1 (.slice F y C) y (je z') H/\k<=len/\p+k<=N/\(0<len->p<N->0<k) /\
    w = .tuple #[.int .i64 k,if p<N then .nilIface else S.eofV]/\m=(b,mA B o k dat p)::(pb,IQ Y (N-(p+k)) U F y C)::(sm++H)):=by
 refine bE Tryz.func151 fun c h0 hex=>?_
 refine go ?_
 refine ac rfl (fun h=>?_) (fun h=>?_)
 ·have W:N-p=0:=aa
  refine go ?_;refine aK rfl rfl (by simp[S.e0]) S.e0n S.e0g rfl ?_
  refine go ?_;refine af ?_;refine ag [4,5] (post:=(b,mA B o 0 dat p)::(pb,IQ J (N-p) u O I zc)::(sm++H)) (junk:=[]) ⟨J,u,O,I,zc,z,0,by simpa using hs,hz,Nat.zero_le _,hp,fun _ _=>aa,by rw[ah aa];rfl,rfl⟩ rfl (by
   rw[List.append_nil];exact .cons (by unfold mA;rw[eY]) (.refl _))
 have W:0<N-p:=aa
 have am:=b_ hs
 have a3:=am.le
 refine go ?_
 refine ls rfl rfl rfl ?_
 obtain⟨q,hq,q1,q2,q3⟩:∃q:Nat,(if((N-p:Nat):Int)<(len:Nat) then((N-p:Nat):Int) else(len:Nat))=(q:Int)/\q<=len/\q<=N-p/\(0<len->0<q):=by
  by_cases h:((N-p:Nat):Int)<(len:Nat)
  ·exact⟨N-p,ai h,aa,aZ _,fun _=>W⟩
  ·exact⟨len,ah h,aZ _,aa,fun h=>h⟩
 rw[hq]
 refine go ?_
 refine bp (σ:=Nat) [] (fun k=>[(0,bf pb),(1,.slice (some ⟨b,o,none⟩) len cap),(6,ay k)]) (fun _=>(b,B)::(pb,IQ J (N-p) u O I zc)::(sm++H)) (fun k=>k<=len/\k<=N-p/\(0<len->0<k)) ?_ ?_
 ·refine ac rfl (fun h=>?_) (fun h=>?_)
  ·obtain⟨zb,M,zB,rfl,al,ax,a0⟩:=(kV hz).some aa
   refine go ?_;refine aK (v:=.int .i64 (z 0)) rfl rfl (b:=zb) (B:=zB) (by simp[al]) aa (a0 0 aa) rfl ?_
   refine go ?_;refine rW rfl rfl rfl ?_
   obtain⟨w,hw,w1⟩:∃w:Int,(if z 0>1 then z 0 else 1)=w/\0<w:=⟨_,rfl,by split<;>omega⟩
   rw[hw];refine go ?_;refine ls rfl rfl rfl ?_
   obtain⟨k,hk,k1,k2⟩:∃k:Nat,(if w<(q:Nat) then w else(q:Nat))=(k:Int)/\k<=q/\(0<q->0<k):=by
    by_cases h:w<(q:Nat)
    ·exact⟨w.toNat,by rw[ai h];omega,aa,fun _=>aa⟩
    ·exact⟨q,ah h,aZ _,fun h=>h⟩
   rw[hk];refine go ?_;exact⟨k,⟨aa,aa,fun h=>k2 (q3 h)⟩,cF,.refl _⟩
  ·refine go ?_;exact⟨q,⟨q1,q2,q3⟩,cF,.refl _⟩
 rintro k f ⟨k1,k2,k3⟩
 refine go ?_
 refine bp (σ:=Option Addr×Nat×Nat×(Nat->Int)) [] (fun _=>[(0,bf pb),(1,.slice (some ⟨b,o,none⟩) len cap),(6,ay k)]) (fun t=>(b,B)::(pb,IQ J (N-p) u t.1 t.2.1 t.2.2.1)::(sm++H))
  (fun t=>dH 1 (.slice t.1 t.2.1 t.2.2.1) t.2.1 (je t.2.2.2) H) ?_ ?_
 ·refine ac rfl (fun h=>?_) (fun h=>?_)
  ·rcases hz with⟨_,h1,_⟩|⟨zb,M,zc,zB,h1,rfl,z1,z2,z3,z4⟩
   ·omega
   cases h1;refine go ?_;have ax:I<=zc:=z3
   have a6:M+zc*1<=zB.n:=z2
   refine⟨(some ⟨zb,M+1,none⟩,I-1,zc-1,fun i=>z (i+1)),.inr ⟨zb,M+1,zc-1,zB,rfl,rfl,z1,aa,by dsimp only;omega,fun i hi=>?_⟩,cF,.cons rfl ci⟩
   dsimp only at hi;rw[show M+1+i=M+(i+1) from aa,z4 (i+1) aa]
   rfl
  ·refine go ?_;exact⟨(O,I,zc,z),hz,cF,.refl _⟩
 rintro⟨F,y,C,z'⟩ f ab
 dsimp only at ab ⊢
 obtain⟨d,r,D,rfl,rfl,a1,a4,K⟩:∃d r D,J=some ⟨d,r,none⟩/\sm=[(d,D)]/\D.fr=(0,0)/\r+u<=D.n/\∀i,i<N-p->D.g (r+i) = .int .u8 (dat (p+i)):=by
  rcases hs with⟨_,h1,_⟩|⟨d,r,cd,D,h1,rfl,h3,h4,_,h6⟩
  ·omega
  ·cases h1;exact⟨d,r,D,rfl,rfl,h3,aa,fun i hi=>h6 i aa⟩
 refine go ?_
 refine jq (s:=0) (k:=k) (src:=fun j=>D.g (r+j)) rfl rfl rfl rfl (.inl ⟨d,r,u,D,rfl,by simp,aa,rfl⟩) (fun j hj=>by show dJ (D.g (r+j))=true;rw[K j aa];rfl) .here aw aa hex rfl ?_
 rw[show min k len=k from aa]
 refine go ?_
 refine iU (s:=0) (l:=(k:Nat)) (h:=((N-p:Nat):Int)) rfl rfl rfl rfl rfl aa aa aa rfl ?_
 refine go ?_
 refine af ?_
 have V:k<N-p->Eng.sOff r (k:Int).toNat (0+1) u=r+k:=fun hl=>by unfold Eng.sOff;rw[ah aa];omega
 have a2:Eng.sOff r (k:Int).toNat (0+1) u+(u-k)<=D.n:=by unfold Eng.sOff;split<;>omega
 have ad:∀i,cQ B.g o (k*(0+1)) (fun j=>D.g (r+j)) i=cQ B.g o k (mz dat p) i:=fun i=>by
  rw[show k*(0+1)=k from aa];by_cases hi:o<=i/\i<o+k
  ·rw[bH _ _ _ _ _ hi.1 hi.2,bH _ _ _ _ _ hi.1 hi.2,K _ aa];rfl
  ·rw[aP _ _ _ _ _ aa,aP _ _ _ _ _ aa]
 refine ag [4,5] (post:=(b,mA B o k dat p)::(pb,IQ (some ⟨d,Eng.sOff r (k:Int).toNat (0+1) u,none⟩) (N-(p+k)) (u-k) F y C)::([(d,D)]++H)) (junk:=[]) ⟨some ⟨d,Eng.sOff r (k:Int).toNat (0+1) u,none⟩,u-k,F,y,C,z',k,.inr ⟨d,_,_,D,by rw[Nat.sub_add_eq],rfl,a1,aa,aa,fun i hi=>?_⟩,ab,k1,aa,fun h _=>k3 h,by rw[ai aa];rfl,rfl⟩ rfl (by
  rw[List.append_nil];exact .cons (c9 fun i _=>ad i) (.cons (by rw[Nat.sub_add_eq];exact aW rfl rfl rfl rfl) (.refl _)))
 rw[V aa,Nat.add_assoc,K _ aa]
 rw[show p+(k+i)=p+k+i from aa];rfl
theorem Ki:uP Tryz.prog 67 "Read" = some 151:=by kernel_rfl
def GJ (S:bN G) (dat:Nat->Nat) (N pb:Nat):dn S dat N where
 σ:=KN
 mem s:=(pb,IQ s.va (N-s.pos) s.vc s.za s.zn s.zc)::(s.sm++s.zm)
 pos s:=s.pos
 ok s:=s.pos<=N/\dH 1 (.slice s.va (N-s.pos) s.vc) (N-s.pos) (dw fun i=>dat (s.pos+i)) s.sm/\dH 1 (.slice s.za s.zn s.zc) s.zn (je s.z) s.zm
 t:=67
 e:=70
 rv:=bf pb
 fid:=151
 ptr:=rfl
 mth:=Ki
 go:=rfl
 le s h:=h.1
 rd:=by
  intro s b o len cap B dE j u M;refine(GI S dat N pb s.pos s.va s.vc s.sm dE.2.1 dE.1 s.za s.zn s.zc s.z s.zm dE.2.2 b o len cap B j u M).mono ?_
  rintro v m ⟨q,l,p,g,r,C,k,I,y,A,H,K,F,J⟩;exact⟨⟨s.pos+k,q,l,s.sm,p,g,r,C,s.zm⟩,k,⟨H,I,y⟩,A,rfl,K,F,J⟩
theorem GK (h:Option Addr) (k:Nat) (j:aU G h N k dat) (u:N<=2^39):av Tryz.prog G 37 #[.slice h N k] [] (fun v m=>∃a c,v = .slice a N c/\dH 1 (.slice a N c) N (dw dat) m):=by
 refine bE Tryz.func37 fun c h0 hex=>?_
 refine go ?_
 refine GH rfl rfl rfl rfl rfl ?_
 rcases j.is with⟨rfl,rfl,rfl⟩|⟨b,o,B,rfl,hB,r,hg⟩
 ·refine go ?_;refine ld rfl ?_
  refine go ?_;exact af (bx [2] ⟨none,0,rfl,.inl ⟨rfl,rfl,rfl⟩⟩)
 ·refine go ?_;refine oI rfl ?_
  refine go ?_;refine au (l:=[]) (z:=.int .u8 0) (vs:=[]) rfl rfl z5 rfl rfl rfl rfl hex fun p q=>?_
  refine go ?_;refine eP (len:=0) (a:=fun _=>0) (sm:=[(p,aj [] 5)]) (fm:=[]) rfl rfl rfl rfl z5 (by decide) rfl rfl (.inr ⟨p,0,0,_,rfl,rfl,rfl,aZ _,aZ _,fun i hi=>absurd hi aa⟩) an rfl j.add aa hex rfl ?_
  intro a1 c1 s1 g;refine go ?_;refine af ?_;refine ag [2] (post:=s1) (junk:=[]) ⟨a1,c1,by show Value.slice _ _ _=_;rw[Nat.zero_add],?_⟩ rfl (.of_perm an)
  rw[Nat.zero_add] at g;exact g
theorem Cp {M:ao} {k:Option Addr} {n h:Nat} {x:Nat->Int} (v:fR M k n h x):∃src,k_ M 1 (.slice k n h) n src/\∀i,i<n->src i = .int .i64 (x i):=by
 by_cases h0:n=0
 ·subst h0;exact⟨fun _=>undef,.inr ⟨rfl,k,h,rfl⟩,fun i hi=>aa⟩
 ·obtain⟨b,o,B,rfl,l,hf,hg⟩:=v.some aa;exact⟨fun j=>B.g (o+j),.inl ⟨b,o,h,B,rfl,l,aa,rfl⟩,hg⟩
set_option maxHeartbeats 1000000 in
theorem ER (S:bN G) (V:jW G) (hd:∀i,dat i<256) (K:Option Addr) (U:Nat) (hv:aU G K N U dat) (hN:N<=2^39) (Y:Option Addr) (n cq:Nat) (z:Nat->Int) (hz:fR G Y n cq z) (hn:n<=2^39) {T:List Nat} {v:Nat} (hT:gk dat N (PS.init CE.zero) T v) (hl:T.length<=2^39) :
  av Tryz.prog G 27 #[.slice K N U,.slice Y n cq] [] (fun w M=>∃l q O,w = .tuple #[.slice l T.length q,.bool (decide (v=1))]/\dH 1 (.slice l T.length q) T.length (dw O) M/\∀i,i<T.length->T[i]? = some (O i)):=by
 obtain⟨fb,h1,h2,h3⟩:=V.fz
 obtain⟨W,hA,_,hO⟩:=vX (fh dat N) 4096 (by decide) T.length (aZ _) hT (fun _=>0) 0
 rw[Nat.zero_add] at hA
 refine bE Tryz.func27 fun c h0 hex=>?_
 refine go ?_
 refine ae (GK K U hv hN) ?_
 rintro w sm ⟨C,H,rfl,hs⟩
 rw[List.append_nil]
 refine go ?_
 obtain⟨src,F,B⟩:=Cp (hz.mono (M':=sm++G) fun p hp=>List.mem_append.2 (.inr hp))
 refine bg (s:=0) (src:=src) (k:=n) (len:=0) (v:=.slice none 0 0) (cl:=fun _=>undef) (sm:=[]) (fm:=sm) rfl rfl rfl rfl z3 (by decide) rfl rfl (.inl ⟨rfl,rfl,rfl⟩) an F (fun j hj=>by rw[B j aa];rfl) aa hex rfl ?_
 intro w zm g ab
 have g:=bR (cl':=je z) g fun i hi=>by
  rw[ah aa,B _ aa];show Value.int _ (z (i-0*(0+1)))=Value.int _ (z i)
  rw[Nat.zero_mul,Nat.sub_zero]
 obtain⟨r,u,rfl⟩:=bV g
 have I:0+n=n:=Nat.zero_add n
 rw[I] at g
 have g:dH 1 (.slice r n u) n (je z) zm:=g
 rw[I]
 refine go ?_
 refine oC (vs:=[.slice C N H,.slice r n u]) [(0,1),(1,1)] rfl rfl rfl z70 rfl rfl ?_
 refine go ?_
 refine kw (vs:=[.slice C N H,.slice r n u]) rfl rfl rfl hex fun pb ad=>?_
 refine go ?_
 refine ar (kh G 67 (bf pb)) ?_ (fm:=(pb,aj [.slice C N H,.slice r n u] 70)::(sm++zm)) (hs:=.of_perm an)
 rintro w m ⟨J,rfl,rfl⟩
 refine go ?_
 have hm:jV (GJ S dat N pb) jd J (PS.init CE.zero) ((J,az 0 (RS.zero.reset (.iface 67 (bf pb)) (.slice none 0 0)))::((pb,aj [.slice C N H,.slice r n u] 70)::(sm++zm)++[])) :=
  ⟨0,_,⟨0,C,H,sm,r,n,u,z,zm⟩,[],[],[],rfl,⟨Nat.zero_le _,by simpa using hs,g⟩,rfl,rfl,fun _=>by show 0<256;omega,⟨rfl,rfl,rfl,rfl,rfl,rfl,rfl⟩,oY,fun _=>by show 0<256;omega,Nat.zero_le _,Nat.zero_le _,
   .inl ⟨rfl,rfl,rfl,fun _=>rfl⟩,⟨fun _=>0,.inl ⟨rfl,rfl,rfl⟩,Nat.zero_le _,aZ _,fun _=>rfl,fun i hi=>absurd hi (Nat.not_lt_zero _)⟩,fun h=>absurd (show false=true from h) (by decide),ns⟩
 refine ar (Df (GJ S dat N pb) hd (Ht (GJ S dat N pb) hd (by kernel_rfl)) jd (bG dat N) _ (xu (GJ S dat N pb) hd V.b0 V.b2 aa) (fh dat N) CE.ini mJ fb h1 h2 h3 aa oF (pq hd) J _ _ hm mK (W,T.length,decide (v=1)) (fun _=>0) hA hl) ?_ (fm:=[]) (hs:=.of_perm an)
 rintro w M ⟨out,rfl,y⟩
 obtain⟨l,q,rfl⟩:=bV y
 refine go ?_
 exact af (ii [4,5] (M) ⟨l,q,W,rfl,y,fun i hi=>by rw[hO i hi,Nat.zero_add]⟩)
set_option maxHeartbeats 1000000 in
theorem tq (S:bN G) (V:jW G) (hd:∀i,dat i<256) (F:Option Addr) (I:Nat) (hv:aU G F N I dat) (K:Option Addr) (n M:Nat) (z:Nat->Int) (hz:fR G K n M z) :
  av Tryz.prog G 13 #[.slice F N I,.slice K n M] [] (fun v _=>v = .bool true):=by
 obtain⟨fb,j,r,k⟩:=V.fz
 refine bE Tryz.func13 fun c h0 hex=>?_
 refine go ?_
 refine aJ 11 rfl (fun h1=>?_) (fun h1=>?_)
 ·refine go ?_;exact af (ag [4] rfl)
 refine go ?_
 refine ac rfl (fun h2=>?_) (fun h2=>?_)
 ·refine go ?_;exact af (ag [4] rfl)
 have hN:N<=2147483647:=aa
 have hn:n<=2147483647:=aa
 refine go ?_
 refine ae (fi F N I hd hv aa) ?_
 cases hr:cP dat N with
 | op =>
  rintro v m ⟨rfl,rfl⟩;refine go ?_;refine aC z29 rfl hex fun q B=>?_
  refine go ?_;refine ak (s:=2) (vs:=[.slice none 0 0,.int .i64 ((0:Nat):Int),.slice none 0 0]) rfl rfl rfl rfl (cC rfl) .here (aZ 3) rfl hex ?_
  refine go ?_;refine ae (cf S fb j r k) ?_ (fm:=_) (hs:=.refl _)
  rintro v m rfl;refine go ?_;exact af (bx [4] rfl)
 | wr =>
  rintro v m ⟨rfl,rfl⟩;obtain⟨T,y,t⟩:=qt hd hr;refine go ?_;refine aC z29 rfl hex fun q B=>?_
  refine go ?_;refine ak (s:=2) (vs:=[.slice none 0 0,.int .i64 ((2:Nat):Int),.slice none 0 0]) rfl rfl rfl rfl (cC rfl) .here (aZ 3) rfl hex ?_
  refine bj (m':=[(q,cK none 0 0 2 none 0 0)]) ci ?_
  refine go ?_;refine ar (ER S V hd F I hv aa K n M z hz aa t aa) ?_ (fm:=[(q,cK none 0 0 2 none 0 0)]) (hs:=.refl _)
  rintro v U ⟨H,u,O2,rfl,_,_⟩;refine go ?_;refine ae (cf S fb j r k) ?_ (fm:=_) (hs:=.refl _)
  rintro v m rfl;refine go ?_;exact af (bx [4] rfl)
 | ok R =>
  obtain⟨O,l⟩:=R;rintro v m ⟨h,g,W,J,U,em,rfl,rfl,am,ab⟩;obtain⟨y,t⟩:=jz hd hr;have hT:(txt O 0 l).length=l:=by rw[de];omega
  generalize (iy dat N N 0 0).length=ne at ab ⊢;refine go ?_;refine aC z29 rfl hex fun q B=>?_
  refine go ?_;refine ak (s:=2) (vs:=[.slice h l g,.int .i64 ((1:Nat):Int),.slice W ne J]) rfl rfl rfl rfl (cC rfl) .here (aZ 3) rfl hex ?_
  refine bj (m':=(q,cK h l g 1 W ne J)::(U++em++[])) ci ?_
  refine go ?_;refine ar (ER S V hd F I hv aa K n M z hz aa y aa) ?_ (fm:=(q,cK h l g 1 W ne J)::(U++em)) (hs:=.of_perm an)
  rintro v al ⟨H,u,O2,rfl,C,hO⟩;rw[hT] at C hO ⊢;refine go ?_;have Y:=b_ am
  have ad:=b_ C
  refine ar (av.freeze (fm:=U++al) (jQ H h l l u g O2 O (ad.mono fun p hp=>by simp[hp]) (Y.mono fun p hp=>by simp[hp]) rfl fun i hi=>?_)) ?_ (fm:=(q,cK h l g 1 W ne J)::em) (hs:=.of_perm an)
  ·have:=hO i hi
   rw[fD aa,Nat.zero_add] at this;exact(Option.some.inj this).symm
  rintro v m ⟨m0,⟨rfl,rfl⟩,rfl⟩;refine go ?_;refine ae (cf S fb j r k) ?_ (fm:=_) (hs:=.refl _)
  rintro v m rfl;refine go ?_;exact af (bx [4] rfl)
end Go.Proofs.YtogmacnlpclgkaaGreatDoor
