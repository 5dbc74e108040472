/- Texts 36. -/
import Derived.Test.YtogmacnlpclgkaaGreatDoorX35
set_option linter.all false
namespace Go.Proofs.YtogmacnlpclgkaaGreatDoor
open Go Go.Eng Go.Pz
set_option maxRecDepth 20000
variable {d:Nat->Nat}
theorem AF {T:jR} {n K:Nat} {L:Nat->Nat} (g:ql T) (h:kC T d n K = .ok L):∀i,L i<256:=by
 unfold kC at h
 have h:=(Ve.ite_op h).2
 have h:=(Ve.ite_wr h).2
 have h:=(Ve.ite_op h).2
 cases h
 intro i
 exact Nat.div_lt_of_lt_mul (g.2 _ (fC _ _ _))
theorem pD {T:jR} {n size K:Nat} {L:Nat->Nat} (g:ql T) (h:kS T d n size K = .ok L):∀i,L i<256:=by
 unfold kS at h
 have h:=(Ve.ite_wr h).2
 have h:=(Ve.ite_op h).2
 exact AF g h
theorem Gu {T:jR} {n K:Nat} {four:Bool} {L:Nat->Nat} (g:ql T) (h:jX T d n K four = .ok L):∀i,L i<256:=by
 unfold jX at h
 rcases Ve.ite_or h with h|h
 ·exact AF g h
 have h:=(Ve.ite_op h).2
 have h:=(Ve.ite_wr h).2
 dsimp only at h
 obtain⟨r,l,h⟩:=Ve.bind_some h
 obtain⟨q,j,h⟩:=Ve.bind_some h
 obtain⟨L3,p,h⟩:=Ve.bind_some h
 obtain⟨L4,k,h⟩:=Ve.bind_some h
 cases h
 intro i
 dsimp only
 split
 ·exact pD g l _
 split
 ·exact pD g j _
 split
 ·exact pD g p _
 ·exact pD g k _
theorem Ex {g t':Option jR} {n K k:Nat} {L:Nat->Nat} (hd:∀i,d i<256) (ht:∀T,g=some T->ql T) (h:lX g d n = .ok ((K,L,k),t')):∀i,L i<256:=by
 have dE:=(AE hd ht h).2.2
 unfold lX at h
 have h:=(Ve.ite_wr h).2
 dsimp only at h
 rcases Ve.ite_or h with h|h
 ·have h:=(Ve.ite_wr h).2
  have h:=(Ve.ite_op h).2
  rcases Ve.ite_or h with h|h
  ·have h:=(Ve.ite_wr h).2
   cases h;exact fun i=>hd _
  ·have h:=(Ve.ite_wr h).2
   cases h;exact fun i=>hd _
 ·have h:=(Ve.ite_wr h).2
  have h:=(Ve.ite_wr h).2
  obtain⟨⟨t,k0⟩,l,h⟩:=Ve.bind_some h
  cases t with
  | none=>cases h
  | some T =>
   have h:(if 131072<(di d).2.1\/(di d).2.1=0 then Ve.op else(jX T (aX d ((di d).1+k0)) ((di d).2.2-k0) (di d).2.1 (decide (d 0/4%4≠0))).bind fun L=>.ok (((di d).2.1,L,(di d).1+(di d).2.2),some T)) = .ok ((K,L,k),t'):=h
   have h:=(Ve.ite_op h).2
   obtain⟨L',j,h⟩:=Ve.bind_some h;cases h;exact Gu (dE T rfl) j
section
variable {T0 T1 T2:dV} {win most b:Nat} {TX:Nat->Nat} {tl:Nat}
theorem Ey (g:∀i,TX i<256) {last:Bool} {x x':SQ} (hx:∀i,x.out i<256) (h:ko T0 T1 T2 d win most b TX tl last x = .ok x'):∀i,x'.out i<256:=by
 unfold ko at h
 dsimp only at h
 have h:=(Ve.ite_wr h).2
 have h:=(Ve.ite_wr h).2
 have h:=(Ve.ite_wr h).2
 have h:=(Ve.ite_op h).2
 rcases Ve.ite_or h with h|h
 ·cases h;exact sO (qW hx fun _=>g _) (fun _=>by show 0<256;decide) _
 ·have h:=(Ve.ite_wr h).2
  cases h;exact sO (qW hx fun _=>g _) (fun _=>by show 0<256;decide) _
theorem xN (g:∀i,TX i<256):∀(k:Nat) {x x':SQ},(∀i,x.out i<256)->ip T0 T1 T2 d win most b TX tl k x = .ok x'->∀i,x'.out i<256
 | 0,x,x',hx,h=>by cases h;exact hx
 | k+1,x,x',hx,h=>by
  rw[ip] at h;obtain⟨y,j,h⟩:=Ve.bind_some h;exact xN g k (Ey g hx j) h
end
theorem Ez {s j:SS} {win most n:Nat} (hd:∀i,d i<256) (ht:∀T,s.tree=some T->ql T) (hs:∀i,s.out i<256) (h:jS s win most d n = .ok j):∀i,j.out i<256:=by
 unfold jS at h
 obtain⟨⟨⟨K,L,k⟩,t⟩,l,h⟩:=Ve.bind_some h
 have g:=Ex hd ht l
 dsimp only at h
 have h:=(Ve.ite_wr h).2
 have h:=(Ve.ite_wr h).2
 rcases Ve.ite_or h with h|h
 ·have h:=(Ve.ite_op h).2
  cases h;exact qW hs g
 have h:=(Ve.ite_wr h).2
 have h:=(Ve.ite_op h).2
 obtain⟨r,_,h⟩:=Ve.bind_some h
 obtain⟨p,_,h⟩:=Ve.bind_some h
 obtain⟨q,_,h⟩:=Ve.bind_some h
 unfold iw at h
 have h:=(Ve.ite_op h).2
 have h:=(Ve.ite_wr h).2
 dsimp only at h
 have h:=(Ve.ite_wr h).2
 obtain⟨x,hx,h⟩:=Ve.bind_some h
 have h:=(Ve.ite_op h).2
 have h:=(Ve.ite_op h).2
 cases h
 exact qW (xN g _ hs hx) fun _=>g _
theorem EA {s g:SS} {win most n:Nat} (h:jS s win most d n = .ok g):g.ol<=s.ol+most:=by
 unfold jS at h
 obtain⟨⟨⟨K,L,k⟩,t⟩,p,h⟩:=Ve.bind_some h
 dsimp only at h
 have h:=(Ve.ite_wr h).2
 have h:=(Ve.ite_wr h).2
 rcases Ve.ite_or h with h|h
 ·obtain⟨c,h⟩:=Ve.ite_op h;cases h;exact Nat.add_le_add_left (Nat.le_of_not_lt fun h=>c (.inr (.inr h))) _
 have h:=(Ve.ite_wr h).2
 have h:=(Ve.ite_op h).2
 obtain⟨l,_,h⟩:=Ve.bind_some h
 obtain⟨i,_,h⟩:=Ve.bind_some h
 obtain⟨j,_,h⟩:=Ve.bind_some h
 unfold iw at h
 have h:=(Ve.ite_op h).2
 have h:=(Ve.ite_wr h).2
 dsimp only at h
 have h:=(Ve.ite_wr h).2
 obtain⟨x,hx,h⟩:=Ve.bind_some h
 have h:=(Ve.ite_op h).2
 obtain⟨c,h⟩:=Ve.ite_op h
 cases h
 dsimp only
 omega
end Go.Proofs.YtogmacnlpclgkaaGreatDoor
namespace Go.Eng
open Go
section
variable {P:Program} [ty:bA P] {G:ao} {qs:List FuncId} {c:World} {n:Nat} {h0:dx} {ops:Array Oper} {Q:Fr->ao->Prop} {rest:List Oper} {f:Fr} {m:ao}
variable {d:Option Tmp} {T T' tt:TypeId} {pos:String} {aft:Array Edge}
theorem oC {l:List (Nat×Operand)} {zs vs:List Value} {fs:List (Nat×TypeId)} (pl:List (Nat×Nat)) (u:bA.tk P T = .st fs) (gz:fs.map (fun p=>(p.1,bA.sz P p.2))=pl) (j:pl.all (fun p=>Nat.blt 0 p.2)=true) (k:dv P T=some zs)
  (g:Instr.fill (fun i=>pl.toArray[i]?) zs.toArray (fO f l)=some vs.toArray) (hd:aE n d=true)
  (h:RO P G qs c n h0 ops Q rest (aV f d (.agg vs.toArray)) m):RO P G qs c n h0 ops Q (⟨d,.build T l.toArray,tt,pos,aft,none⟩::rest) f m:=by
 refine oO (fun w=>?_) hd h
 obtain⟨r,hf,hl⟩:=v9 u
 unfold dv at k
 simp only[Option.bind_eq_some_iff,Option.map_eq_some_iff] at k
 obtain⟨i,hi,z,k,rfl⟩:=k
 have q:∀w,(r.mapM fun fd=>do pure (fd.offset,<- sizeOf fd.type):Sem (Array (Nat×Nat))).run P w = .ok pl.toArray w:=fun w=>by
  refine rZ (fun w=>?_) w
  have y:r.toList.map (fun fd=>(fd.offset,(sizeOf fd.type).run P w))=fs.map fun p=>(p.1,(sizeOf p.2).run P w):=by rw[<- hl,List.map_map];rfl
  rw[y,<- gz,List.map_map];refine List.map_congr_left fun p t=>?_
  have A:=List.all_eq_true.1 j (p.1,bA.sz P p.2) (by rw[<- gz];exact List.mem_map_of_mem t)
  have B:0<bA.sz P p.2:=by simpa[Nat.blt_eq] using A
  show(p.1,(sizeOf p.2).run P w)=(p.1,Result.ok (bA.sz P p.2) w)
  rw[bP (P:=P) rfl aa w]
 rw[iA]
 simp only[Instr.build,Sem.run_bind,zeroValue,typeInfo,run_program,Result.andThen_ok,hi,Sem.run_pure,k,run_underlying hf,q]
 simp only[Array.toArray_toList] at g ⊢
 rw[g]
 rfl
end
end Go.Eng
namespace Go.Proofs.YtogmacnlpclgkaaGreatDoor
open Go Go.Eng Go.Pz
attribute [local irreducible] RO J av aO
set_option maxRecDepth 20000
variable {G:ao} {d:Nat->Nat}
theorem EC (x:Nat->Nat) (n:Nat):jo x n=match eO x n with
  | .wrong=>.wr
  | .open_=>.op
  | .right a b c=>.ok (a,b,c):=by
 unfold jo eO
 dsimp only
 by_cases i:x 4/8%2=1
 ·rw[ai i,ai i]
 rw[ah i,ah i]
 by_cases g:n<5+cJ (x 4)
 ·rw[ai g,ai g]
 rw[ah g,ah g]
 by_cases k:gO x (5+aQ (x 4)) (aB (x 4))=false
 ·rw[ai k,ai k]
 rw[ah k,ah k]
 by_cases h:bC (x 4)=8/\64<=x (5+aQ (x 4)+aB (x 4)+7)
 ·rw[ai h,ai h]
 rw[ah h,ah h]
 generalize (if aD (x 4) then eW x (x 4) (5+aQ (x 4)+aB (x 4)) else cj (x 5))=w
 by_cases j:8388608<w
 ·rw[ai j,ai j]
 ·rw[ah j,ah j]
theorem yY {x:Nat->Nat} {n a b c:Nat} (h:eO x n = .right a b c):b<=8388608/\5<=c/\c<=n:=by
 unfold eO at h
 dsimp only at h
 by_cases k:x 4/8%2=1
 ·rw[ai k] at h;cases h
 rw[ah k] at h
 by_cases g:n<5+cJ (x 4)
 ·rw[ai g] at h;cases h
 rw[ah g] at h
 by_cases i:gO x (5+aQ (x 4)) (aB (x 4))=false
 ·rw[ai i] at h;cases h
 rw[ah i] at h
 by_cases j:bC (x 4)=8/\64<=x (5+aQ (x 4)+aB (x 4)+7)
 ·rw[ai j] at h;cases h
 rw[ah j] at h
 by_cases l:8388608<(if aD (x 4) then eW x (x 4) (5+aQ (x 4)+aB (x 4)) else cj (x 5))
 ·rw[ai l] at h;cases h
 ·rw[ah l] at h;cases h;exact⟨aa,aa,aa⟩
theorem xO (x:Nat->Nat) (p:Nat):bT (fun i=>x (p+i)) 3=dB x p:=by rw[JQ];rfl
def JF (r:Ve ((Nat->Nat)×Nat×Nat)) (v:Value) (m:ao):Prop:=match r with
 | .op=>v = .tuple #[.slice none 0 0,.int .i64 0,.int .i64 0]
 | .wr=>v = .tuple #[.slice none 0 0,.int .i64 0,.int .i64 2]
 | .ok (O,l,z)=>∃h g,v = .tuple #[.slice h l g,ay z,.int .i64 1]/\dH 1 (.slice h l g) l (dw O) m
def xP (q:SS×Nat):Ve ((Nat->Nat)×Nat×Nat):=.ok (q.1.out,q.1.ol,q.2)
def te (x:Nat->Nat) (n room:Nat):Ve ((Nat->Nat)×Nat×Nat) :=
 (jo x n).bind fun r=>(fq x n room r.2.1 (if aD (x 4)=true then 131072 else min 131072 r.2.1) (bC (x 4) != 0) (dg (x 4)) r.1 n r.2.2 SS.zero).bind xP
structure JR where
 at_:Nat
 last:Bool
 s:SS
 x:SB
 M:ao
 j:ao
def KI (d:Nat->Nat) (N room win most:Nat) (g sm:Bool) (size:Nat) (E:Ve ((Nat->Nat)×Nat×Nat)) (t:JR):Prop :=
 (t.last=false/\∃f,N+1<=f+t.at_/\E=(fq d N room win most g sm size f t.at_ t.s).bind xP)\/(t.last=true/\E=(oB d N g sm size t.s t.at_).bind xP)
structure Kt (sb win most:Nat) (t:JR):Prop where
 fr:IZ sb t.x t.s t.M
 ok:Gr t.s
 win:t.x.win=win
 most:t.x.most=most
 byt:∀i,t.s.out i<256
 ol:t.s.ol<=2^23
theorem Gv:Gr SS.zero where
 tr:=fun T h=>by cases h
 tb:=fun k i T h=>by
  have g:k=0\/k=1\/k=2:=aa
  rcases g with rfl|rfl|rfl<;>cases h
 o1:=by decide
 o2:=by decide
 o3:=by decide
theorem Gw (sb win most:Nat):IZ sb ⟨none,0,0,win,most,none,none,none,none,1,4,8⟩ SS.zero [(sb,dW ⟨none,0,0,win,most,none,none,none,none,1,4,8⟩)] :=
 ⟨[],[],[],[],[],rfl,⟨rfl,rfl,rfl,rfl⟩,.inl ⟨rfl,rfl,rfl⟩,⟨rfl,rfl⟩,⟨rfl,rfl⟩,⟨rfl,rfl⟩,⟨rfl,rfl⟩⟩
set_option maxHeartbeats 1000000 in
theorem IL (da:Option Addr) (N cp:Nat) (hd:∀i,d i<256) (hv:aU G da N cp d) (cS:5<=N) (hN:N<=2^31) (room:Nat) (c3:room<=4194304) :
  av Tryz.prog G 40 #[.slice da N cp,ay room] [] (JF (te d N room)):=by
 refine bE Tryz.func40 fun c0 h0 hex=>?_
 obtain⟨b0,o0,rfl⟩:=hv.some aa
 obtain⟨B0,dm,ce,b6⟩:∃B,(b0,B)∈G/\o0+N<=B.n/\∀i,i<N->B.g (o0+i) = .int .u8 (d i):=by
  rcases hv.is with⟨h,_⟩|⟨b,o,B,h,hm,hf,hg⟩
  ·cases h
  ·cases h;exact⟨B,hm,hf aa,hg⟩
 obtain⟨E,q⟩:∃E,E=te d N room:=⟨_,rfl⟩
 rw[<- q]
 unfold te at q
 rw[EC] at q
 have d7:=hv.le
 have ds:=hd 4
 obtain⟨cq,-⟩:=oX ds
 refine go ?_
 refine ae (yR b0 o0 N cp B0 d hd hv.le dm ce b6 cS hN) ?_
 rintro v m ⟨rfl,size,win,pos,vd,rfl,e0,r⟩
 refine go ?_
 refine aC z100 rfl hex fun hb er=>?_
 refine go ?_
 refine ak (s:=3) (vs:=[.int .i64 size,.int .i64 win,.bool (bC (d 4) != 0),.bool (dg (d 4))]) rfl rfl rfl rfl (cC rfl) .here (by decide) rfl hex ?_
 refine go ?_
 refine ac rfl (fun d8=>?_) (fun et=>?_)
 ·have cr:E=if vd=0 then .op else .wr:=by
   rw[q]
   cases hsp:eO d N with
   | wrong=>rw[hsp] at r;have r:vd=2:=r;rw[ah aa];rfl
   | open_=>rw[hsp] at r;have r:vd=0:=r;rw[ai r];rfl
   | right a b c=>rw[hsp] at r;have r:vd=1:=r.1;omega
  have dc:vd=0\/vd=2:=by
   cases hsp:eO d N with
   | wrong=>rw[hsp] at r;exact .inr r
   | open_=>rw[hsp] at r;exact .inl r
   | right a b c=>rw[hsp] at r;have r:vd=1:=r.1;omega
  refine go ?_;refine af ?_;refine ag [4,5,6] (post:=[]) (junk:=_) ?_ rfl (.refl _)
  rcases dc with rfl|rfl
  ·rw[cr];exact rfl
  ·rw[cr];exact rfl
 obtain rfl:vd=1:=aa
 cases hsp:eO d N with
 | wrong=>rw[hsp] at r;have r:(1:Nat)=2:=r;omega
 | open_=>rw[hsp] at r;have r:(1:Nat)=0:=r;omega
 | right a b c =>
 rw[hsp] at r q
 obtain⟨-,rfl,rfl,rfl⟩:=r
 obtain⟨hw,d1,c4⟩:=yY hsp
 clear hsp
 dsimp only[Ve.bind] at q
 obtain⟨kn,b3⟩:∃kn,kn=(bC (d 4) != 0):=⟨_,rfl⟩
 obtain⟨sm,b7⟩:∃sm,sm=dg (d 4):=⟨_,rfl⟩
 rw[<- b3,<- b7] at q ⊢
 clear b3 b7
 obtain⟨J,al⟩:∃J,J=if aD (d 4)=true then 131072 else min 131072 win:=⟨_,rfl⟩
 rw[<- al] at q
 refine go ?_
 refine ls rfl rfl rfl ?_
 rw[show(if(win:Int)<131072 then(win:Int) else 131072)=((min 131072 win:Nat):Int) by split<;>omega]
 refine go ?_
 refine gc (vs:=[.int .i64 ((1:Nat):Int),.int .i64 ((4:Nat):Int),.int .i64 ((8:Nat):Int)]) rfl rfl z104 rfl rfl rfl rfl ?_
 refine go ?_
 refine oC (vs:=[.slice none 0 0,ay win,.int .i64 ((min 131072 win:Nat):Int),.pointer none,.pointer none,.pointer none,.pointer none,.int .i64 ((1:Nat):Int),.int .i64 ((4:Nat):Int),.int .i64 ((8:Nat):Int)]) [(0,1),(1,1),(2,1),(3,1),(4,3),(7,3)] rfl rfl rfl z109 rfl rfl ?_
 refine go ?_
 refine kw rfl rfl rfl hex fun sb ex=>?_
 obtain⟨C,K⟩:∃C,C=aj [ay size,ay win,.bool kn,.bool sm] 100:=⟨_,rfl⟩
 have eB:C.n=4:=by rw[K];rfl
 have ev:C.g 0=ay size:=by rw[K];rfl
 have eq:C.g 1=ay win:=by rw[K];rfl
 have es:C.g 2 = .bool kn:=by rw[K];rfl
 have ee:C.g 3 = .bool sm:=by rw[K];rfl
 refine bj (m':=(sb,dW ⟨none,0,0,win,min 131072 win,none,none,none,none,1,4,8⟩)::(hb,C)::[]) (.cons dT (.cons (by rw[K];exact aW rfl rfl rfl rfl) (.refl _))) ?_
 clear K
 refine go ?_
 refine bp (σ:=Unit) [] (fun _=>[(0,.slice (some ⟨b0,o0,none⟩) N cp),(1,ay room),(7,bf hb),(8,ay pos),(10,bf sb)]) (fun _=>[(sb,dW ⟨none,0,0,win,J,none,none,none,none,1,4,8⟩),(hb,C)]) (fun _=>True) ?_ ?_
 ·refine ac rfl (fun hq=>?_) (fun hq=>?_)
  ·rw[ai (cq.1 aa)] at al;subst al;refine go ?_;exact⟨(),trivial,cF,.cons dT (.refl _)⟩
  ·rw[ah (fun h=>absurd (cq.2 h) aa)] at al
   subst al;refine go ?_;exact⟨(),trivial,cF,.refl _⟩
 intro _ f _
 refine go ?_
 refine aH (σ:=JR) [] (fun t=>[(0,.slice (some ⟨b0,o0,none⟩) N cp),(1,ay room),(7,bf hb),(8,ay t.at_),(10,bf sb),(11,.bool t.last)]) (fun t=>(hb,C)::(t.M++t.j))
  (fun t=>t.at_<=N/\5<=t.at_/\t.s.ol<=4194304/\Kt sb win J t/\KI d N room win J kn sm size E t) (fun t=>N-t.at_) ⟨pos,false,SS.zero,⟨none,0,0,win,J,none,none,none,none,1,4,8⟩,[(sb,dW ⟨none,0,0,win,J,none,none,none,none,1,4,8⟩)],[]⟩ (.of_perm an) ⟨c4,d1,Nat.zero_le _,⟨Gw _ _ _,Gv,rfl,rfl,fun _=>by show 0<256;decide,Nat.zero_le _⟩,.inl ⟨rfl,N,by dsimp only;omega,q⟩⟩ ?_
 rintro⟨at_,last,s,x,M,j⟩ f ⟨d3,cN,b8,⟨hF,hS,a6,a4,a3,c2⟩,b1⟩
 dsimp only at d3 cN b8 hF hS a6 a4 a3 c2 b1 ⊢
 clear q
 obtain⟨om,O,V,Y,m2,rfl,⟨ad,hx1,bd,bo⟩,ab,hT,b2,bu,bv⟩:=hF
 have hF:IZ sb x s ((sb,dW x)::(om++(O++(V++(Y++m2))))):=⟨om,O,V,Y,m2,rfl,⟨ad,hx1,bd,bo⟩,ab,hT,b2,bu,bv⟩
 cases last with
 | true =>
  rcases b1 with⟨h,_⟩|⟨_,q⟩
  ·cases h
  dsimp only at q;unfold oB at q;refine go ?_;by_cases U:kn=true/\s.ol≠size
  ·rw[ai U] at q;obtain⟨rfl,U⟩:=U;replace q:E = .wr:=q
   subst q;refine go ?_;refine ac rfl (fun bq=>?_) (fun bq=>absurd bq aa)
   refine go ?_;exact af (bx [4,5,6] rfl)
  rw[ah U] at q;cases kn
  case' true =>
   refine go ?_;refine ac rfl (fun bq=>absurd ⟨rfl,aa⟩ U) (fun _=>?_)
  all_goals
   refine go ?_
   cases sm with
   | false =>
    rw[ah (by decide)] at q
    replace q:E = .ok (s.out,s.ol,at_):=q
    refine go ?_;refine af ?_;rw[q];exact ag [4,5,6] (post:=om) (junk:=(hb,C)::(sb,dW x)::(O++(V++(Y++(m2++j))))) ⟨x.oa,x.cp,by rw[<- ad];rfl,ab⟩ rfl (.of_perm an)
   | true =>
    rw[ai rfl] at q;dsimp only[fE];refine ld rfl ?_
    repeat refine dk ?_
    refine jy (qs:=[39]) [0,1,2,3,4,5,6,7,8,9,10,11,12,13,14,15,16,17,18,19] rfl (by kernel_rfl) ?_
    refine go ?_;refine aJ 164 rfl (fun h4=>?_) (fun h4=>?_)
    ·rw[ai (.inl aa)] at q;replace q:E = .wr:=q
     subst q;refine go ?_;exact af (bx [4,5,6] rfl)
    refine go ?_;have F:=hv.sub (l:=at_) (h:=at_+4) aa aa
    rw[show at_+4-at_=4 from aa] at F ⊢;rw[kW,ah aa,Nat.mul_one] at F;have bm:bT (fun i=>d (at_+i)) 4=eX fun i=>d (at_+i):=by rw[IY];rfl
    have dt:eX (fun i=>d (at_+i))<4294967296:=lC _ (fun _=>hd _)
    refine aA (i_ (n:=4) (x:=fun i=>d (at_+i)) (fun _=>hd _) (F.mono fun p hp=>List.mem_append.2 (.inr hp)) (by rw[bm];omega) aa) ?_
    rw[bm];obtain⟨W,hW⟩:∃W,W=eX fun i=>d (at_+i):=⟨_,rfl⟩
    rw[<- hW] at q dt ⊢;clear hW bm;refine go ?_;have dl:=b_ ab
    rw[ad];refine ar (av.freeze (fm:=om) (G8 x.oa s.ol x.cp s.out a3 (dl.mono fun p hp=>List.mem_append.2 (.inl hp)) aa)) ?_ (fm:=(hb,C)::(sb,dW x)::(O++(V++(Y++(m2++j))))) (hs:=.of_perm an)
    rintro v m ⟨m',rfl,rfl⟩;refine go ?_;refine ac rfl (fun h5=>?_) (fun h5=>?_)
    ·rw[ai (.inr aa)] at q;replace q:E = .wr:=q
     subst q;refine go ?_;exact af (bx [4,5,6] rfl)
    rw[ah (fun h=>by rcases h with h|h<;>omega)] at q
    replace q:E = .ok (s.out,s.ol,at_+4):=q
    refine go ?_;refine af ?_;rw[q];exact ag [4,5,6] (post:=om) (junk:=(hb,C)::(sb,dW x)::(O++(V++(Y++(m2++j))))++m') ⟨x.oa,x.cp,by rw[<- ad];rfl,ab⟩ rfl (.of_perm an)
 | false =>
  rcases b1 with⟨_,ff,c7,q⟩|⟨h,_⟩
  rotate_left
  ·cases h
  dsimp only at q c7;obtain⟨f2,rfl⟩:∃f2,ff=f2+1:=⟨ff-1,aa⟩
  rw[fq] at q;refine go ?_;refine ac rfl (fun h3=>?_) (fun h3=>?_)
  ·rw[ai aa] at q;replace q:E = .wr:=q
   subst q;refine go ?_;exact af (bx [4,5,6] rfl)
  rw[ah aa] at q;dsimp only at q;refine go ?_;have F:=hv.sub (l:=at_) (h:=at_+3) aa aa
  rw[show at_+3-at_=3 from aa] at F ⊢;rw[kW,ah aa,Nat.mul_one] at F;have a0:=hd at_
  have a1:=hd (at_+1)
  have a2:=hd (at_+2)
  obtain⟨h,hh⟩:∃h,h=dB d at_:=⟨_,rfl⟩
  have ea:h<2^24:=by rw[hh];unfold dB;omega
  refine ar (gj _ 3 (cp-at_) (fun i=>d (at_+i)) (fun _=>hd _) ⟨F.le,F.is⟩ (by rw[xO,<- hh];omega) aa) ?_ (fm:=(hb,C)::((sb,dW x)::(om++(O++(V++(Y++m2))))++j)) (hs:=.of_perm an)
  rintro v m ⟨rfl,rfl⟩;rw[xO,<- hh,List.append_nil];rw[<- hh] at q;obtain⟨k,U⟩:∃k,k=if h/2%4=1 then 1 else h/8:=⟨_,rfl⟩
  rw[<- U] at q;refine go ?_;have c8:h/2^1=h/2:=rfl
  have c5:h/2^3=h/8:=rfl
  rw[c8,c5];refine bp (σ:=Unit) [] (fun _=>[(0,.slice (some ⟨b0,o0,none⟩) N cp),(1,ay room),(7,bf hb),(8,.int .i64 ((at_+3:Nat):Int)),(10,bf sb),(11,.bool (decide (((h%2:Nat):Int)=1))),(13,.int .i64 ((h/2%4:Nat):Int)),(14,.int .i64 ((h/8:Nat):Int)),(15,ay k)])
   (fun _=>(hb,C)::((sb,dW x)::(om++(O++(V++(Y++m2))))++j)) (fun _=>True) ?_ ?_
  ·refine ac rfl (fun hq=>?_) (fun hq=>?_)
   ·rw[ai aa] at U;subst U;refine go ?_;exact⟨(),trivial,cF,.refl _⟩
   ·rw[ah aa] at U;subst U;refine go ?_;exact⟨(),trivial,cF,.refl _⟩
  intro _ f _;refine go ?_;refine aJ 70 rfl (fun k3=>?_) (fun k3=>?_)
  ·rw[ai (.inl aa)] at q;replace q:E = .wr:=q
   subst q;refine go ?_;exact af (bx [4,5,6] rfl)
  refine go ?_;refine aJ 74 rfl (fun s3=>?_) (fun s3=>?_)
  ·rw[ai (.inr (.inl aa))] at q;replace q:E = .wr:=q
   subst q;refine go ?_;exact af (bx [4,5,6] rfl)
  have d5:k<=131072:=by rw[U];split<;>omega
  refine go ?_;refine ac rfl (fun n3=>?_) (fun n3=>?_)
  ·rw[ai (.inr (.inr aa))] at q;replace q:E = .wr:=q
   subst q;refine go ?_;exact af (bx [4,5,6] rfl)
  rw[ah aa] at q;refine go ?_;refine ac rfl (fun w3=>?_) (fun w3=>?_)
  ·rw[ai aa] at q;replace q:E = .op:=q
   subst q;refine go ?_;exact af (bx [4,5,6] rfl)
  rw[ah aa] at q;refine go ?_;obtain⟨rest,aw⟩:∃rest:SS->Ve (SS×Nat),rest=fun s'=>if room<s'.ol then .op else if h%2=1 then oB d N kn sm size s' (at_+3+k) else fq d N room win J kn sm size f2 (at_+3+k) s':=⟨_,rfl⟩
  replace q:E=((pC d win J h at_ s).bind rest).bind xP:=by rw[aw];exact q
  refine nv (σ:=JR) (fun _=>[(0,.slice (some ⟨b0,o0,none⟩) N cp),(1,ay room),(7,bf hb),(8,.int .i64 ((at_+3:Nat):Int)),(10,bf sb),(11,.bool (decide (((h%2:Nat):Int)=1))),(15,ay k)])
   (fun t=>(hb,C)::(t.M++t.j)) (fun t=>Kt sb win J t/\E=(rest t.s).bind xP) ?_ ?_
  ·refine ac rfl (fun q0=>?_) (fun q0=>?_)
   ·have ax:pC d win J h at_ s = .ok { s with out:=fj s.out s.ol (h/8) (aX d (at_+3)),ol:=s.ol+h/8 }:=by unfold pC;rw[ai aa]
    rw[ax] at q;have cc:k=h/8:=by rw[U];exact ah aa
    refine go ?_;refine cT (at_+3) (at_+3+h/8) hv rfl rfl rfl rfl rfl rfl rfl aa aa rfl ?_
    have a7:=hv.sub (l:=at_+3) (h:=at_+3+h/8) aa aa
    rw[show at_+3+h/8-(at_+3)=h/8 from aa] at a7 ⊢;obtain⟨src,cs,cd⟩:=(a7.add (m:=(hb,C)::((sb,dW x)::(om++(O++(V++(Y++m2))))++j))).src
    refine go ?_;refine bg (s:=0) (src:=src) (k:=h/8) (len:=s.ol) (v:=.slice x.oa x.ol x.cp) (cl:=dw s.out) (sm:=om) (fm:=(hb,C)::(sb,dW x)::(O++(V++(Y++(m2++j))))) rfl rfl rfl rfl z5 (by decide) rfl rfl (by rw[ad];exact ab)
     an cs (fun y hy=>by rw[cd y aa];rfl) aa hex rfl ?_ (hQ:=fun _ _ _ e h=>by obtain⟨s,hi,hs,hm⟩:=h;exact⟨s,hi,hs,e.trans hm⟩)
    intro w om4 a5 am;clear am;obtain⟨H,I,rfl⟩:=bV a5;have br:dH 1 (.slice H (s.ol+h/8) I) (s.ol+h/8) (dw (fj s.out s.ol (h/8) (aX d (at_+3)))) om4:=bR a5 fun y hy=>by
     have hy:y<(s.ol+h/8)*(0+1):=hy
     unfold dw;by_cases bs:y<s.ol
     ·rw[ai aa,co aa]
     ·rw[ah aa,cd _ aa,dr aa aa,show y-s.ol*(0+1)=y-s.ol from aa];rfl
    refine go ?_;refine⟨⟨0,false,{ s with out:=fj s.out s.ol (h/8) (aX d (at_+3)),ol:=s.ol+h/8 },{ x with oa:=H,ol:=s.ol+h/8,cp:=I },(sb,dW { x with oa:=H,ol:=s.ol+h/8,cp:=I })::(om4++(O++(V++(Y++m2)))),j⟩,⟨⟨⟨om4,O,V,Y,m2,rfl,⟨rfl,hx1,bd,bo⟩,br,hT,b2,bu,bv⟩,⟨hS.tr,hS.tb,hS.o1,hS.o2,hS.o3⟩,a6,a4,qW a3 fun _=>hd _,by dsimp only;omega⟩,q⟩,cF,.trans (.skip (.cons (B':=dW { x with oa:=H,ol:=s.ol+h/8,cp:=I }) dT (.refl _))) (.of_perm an)⟩
   refine go ?_;refine ac rfl (fun q1=>?_) (fun q1=>?_)
   ·have ax:pC d win J h at_ s = .ok { s with out:=fj s.out s.ol (h/8) (fun _=>d (at_+3)),ol:=s.ol+h/8 }:=by unfold pC;rw[ah aa,ai aa]
    rw[ax] at q;have cc:k=1:=by rw[U];exact ai aa
    have eh:=hd (at_+3)
    refine go ?_;refine aH (σ:=Nat×(Option Addr×Nat×ao×ao)) [] (fun t=>[(0,.slice (some ⟨b0,o0,none⟩) N cp),(1,ay room),(7,bf hb),(8,.int .i64 ((at_+3:Nat):Int)),(10,bf sb),(11,.bool (decide (((h%2:Nat):Int)=1))),(15,ay k),(105,.int .i64 ((h/8:Nat):Int)),(106,ay t.1)])
     (fun t=>(hb,C)::(sb,dW { x with oa:=t.2.1,ol:=s.ol+t.1,cp:=t.2.2.1 })::(t.2.2.2.1++(O++(V++(Y++(m2++t.2.2.2.2)))))) (fun t=>t.1<=h/8/\dH 1 (.slice t.2.1 (s.ol+t.1) t.2.2.1) (s.ol+t.1) (dw (fj s.out s.ol t.1 fun _=>d (at_+3))) t.2.2.2.1) (fun t=>h/8-t.1)
     (0,x.oa,x.cp,om,j) (.skip (.trans (.cons (B':=dW { x with oa:=x.oa,ol:=s.ol+0,cp:=x.cp }) (by rw[Nat.add_zero,<- ad]) (.refl _)) (.of_perm an))) ⟨Nat.zero_le _,by dsimp only;rw[Nat.add_zero,pk];exact ab⟩ ?_
    rintro⟨i,a9,a8,bt,j3⟩ f ⟨hi,be⟩;dsimp only at hi be ⊢;refine go ?_;refine ac rfl (fun eo=>?_) (fun eL=>?_)
    ·refine go ?_;refine au (z:=.int .u8 0) (vs:=[.int .u8 (d (at_+3):Nat)]) rfl rfl z5 rfl rfl rfl rfl hex fun yb eb=>?_
     refine go ?_;refine bg (s:=0) (src:=fun z=>(aj [.int .u8 (d (at_+3):Nat)] 5).g (0+z)) (k:=1) (len:=s.ol+i) (v:=.slice a9 (s.ol+i) a8) (cl:=dw (fj s.out s.ol i fun _=>d (at_+3))) (sm:=bt) (fm:=(hb,C)::(sb,dW { x with oa:=a9,ol:=s.ol+i,cp:=a8 })::(yb,aj [.int .u8 (d (at_+3):Nat)] 5)::(O++(V++(Y++(m2++j3))))) rfl rfl rfl rfl z5 (by decide) rfl rfl be
      an (k_.of (B:=aj [.int .u8 (d (at_+3):Nat)] 5) (by simp) (by show 0+1*(0+1)<=1;decide)) (fun z hz=>by rw[show z=0 from by have h:z<1:=hz;omega];rfl) aa hex rfl ?_
     intro w om4 a5 am;clear am;obtain⟨H,I,rfl⟩:=bV a5;have br:dH 1 (.slice H (s.ol+(i+1)) I) (s.ol+(i+1)) (dw (fj s.out s.ol (i+1) fun _=>d (at_+3))) om4:=bR a5 fun y hy=>by
      have hy:y<(s.ol+i+1)*(0+1):=hy
      rw[sM];unfold dw;by_cases bs:y<s.ol+i
      ·rw[ai aa,bz _ _ _ _ aa]
      ·rw[ah aa,show y-(s.ol+i)*(0+1)=0 from aa,show y=s.ol+i from aa,bL];rfl
     refine go ?_;exact⟨(i+1,H,I,om4,(yb,aj [.int .u8 (d (at_+3):Nat)] 5)::j3),by dsimp only;omega,⟨by dsimp only;omega,br⟩,cF,.trans (.skip (.cons (B':=dW { x with oa:=H,ol:=s.ol+(i+1),cp:=I }) dT (.refl _))) (.of_perm an)⟩
    ·obtain rfl:i=h/8:=aa;refine go ?_;exact⟨⟨0,false,{ s with out:=fj s.out s.ol (h/8) fun _=>d (at_+3),ol:=s.ol+h/8 },{ x with oa:=a9,ol:=s.ol+h/8,cp:=a8 },(sb,dW { x with oa:=a9,ol:=s.ol+h/8,cp:=a8 })::(bt++(O++(V++(Y++m2)))),j3⟩,⟨⟨⟨bt,O,V,Y,m2,rfl,⟨rfl,hx1,bd,bo⟩,be,hT,b2,bu,bv⟩,⟨hS.tr,hS.tb,hS.o1,hS.o2,hS.o3⟩,a6,a4,qW a3 fun _=>hd _,by dsimp only;omega⟩,q⟩,cF,.of_perm an⟩
   refine go ?_;refine ac rfl (fun q2=>?_) (fun q2=>absurd (show((h/2%4:Nat):Int)=2 from aa) q2)
   have ax:pC d win J h at_ s=jS s win J (aX d (at_+3)) (h/8):=by unfold pC;rw[ah aa,ah aa]
   rw[ax] at q;have cc:k=h/8:=by rw[U];exact ah aa
   have d6:J<=131072:=by rw[al];split<;>omega
   refine go ?_;refine cT (at_+3) (at_+3+h/8) hv rfl rfl rfl rfl rfl rfl rfl aa aa rfl ?_
   have a7:=hv.sub (l:=at_+3) (h:=at_+3+h/8) aa aa
   rw[show at_+3+h/8-(at_+3)=h/8 from aa] at a7 ⊢;refine go ?_;refine ar (vY (d:=aX d (at_+3)) sb x s _ hF hS aa aa _ (h/8) (cp-(at_+3)) (fun _=>hd _) a7 aa) ?_ (fm:=(hb,C)::j) (hs:=.of_perm an)
   rw[a6,a4]
   cases hC:jS s win J (aX d (at_+3)) (h/8) with
   | op =>
    rw[hC] at q;replace q:E = .op:=q
    subst q;rintro v m rfl;refine go ?_;refine ac rfl (fun _=>?_) (fun h=>absurd h (by decide))
    refine go ?_;exact af (bx [4,5,6] rfl)
   | wr =>
    rw[hC] at q;replace q:E = .wr:=q
    subst q;rintro v m rfl;refine go ?_;refine ac rfl (fun _=>?_) (fun h=>absurd h (by decide))
    refine go ?_;exact af (bx [4,5,6] rfl)
   | ok s' =>
    rw[hC] at q;rintro v m ⟨rfl,d4,x',c1,w',m'⟩;have b4:=Ez (fun _=>hd _) hS.tr a3 hC
    have ec:=EA hC
    refine go ?_;refine ac rfl (fun h=>absurd rfl h) (fun _=>?_)
    refine go ?_;exact⟨⟨0,false,s',x',m,j⟩,⟨⟨c1,d4,w'.trans a6,m'.trans a4,b4,by dsimp only;omega⟩,q⟩,cF,.of_perm an⟩
  rintro⟨_,_,s2,x2,M2,j2⟩ f ⟨⟨ba,ch,b5,ca,bc,bb⟩,u⟩;dsimp only at ba ch b5 ca bc bb u ⊢;clear hF q;obtain⟨cb,cn,n0,n1,n2,rfl,⟨cm,cu,bs,d2⟩,b9,cx,c6,d0,cw⟩:=ba;have ba:IZ sb x2 s2 ((sb,dW x2)::(cb++(cn++(n0++(n1++n2))))):=⟨cb,cn,n0,n1,n2,rfl,⟨cm,cu,bs,d2⟩,b9,cx,c6,d0,cw⟩
  subst aw;dsimp only at u;refine go ?_;rw[cm];refine ac rfl (fun r3=>?_) (fun r3=>?_)
  ·rw[ai aa] at u;replace u:E = .op:=u
   subst u;refine go ?_;exact af (bx [4,5,6] rfl)
  rw[ah aa] at u;refine go ?_;refine⟨⟨at_+3+k,decide (((h%2:Nat):Int)=1),s2,x2,_,j2⟩,by dsimp only;omega,⟨by dsimp only;omega,by dsimp only;omega,by dsimp only;omega,⟨ba,ch,b5,ca,bc,bb⟩,?_⟩,cF,.refl _⟩
  by_cases hl:h%2=1
  ·rw[ai hl] at u;exact .inr ⟨decide_eq_true aa,u⟩
  ·rw[ah hl] at u;exact .inl ⟨decide_eq_false aa,f2,by dsimp only;omega,u⟩
end Go.Proofs.YtogmacnlpclgkaaGreatDoor
namespace Go.Proofs.YtogmacnlpclgkaaGreatDoor
open Go Go.Eng Go.Pz
set_option maxRecDepth 20000
variable {dat:Nat->Nat} {N:Nat}
theorem yV.next {win:Nat} {s h:SS} {L S:Nat->Nat} {wl bl most:Nat} (W:yV win s.out s.ol L wl) (O:En s h S bl most) (j:win<=33554432):yV win h.out h.ol (l_ win wl L bl S) (min win (wl+bl)):=by
 have l:=W.le
 have k:=W.full
 have p:=O.ol
 refine⟨aa,aa,aa,fun i hi=>?_⟩
 unfold l_ cB
 by_cases g:wl+bl-min win (wl+bl)+i<wl
 ·rw[ai g,W.is _ g,<- O.old _ aa]
  congr 1;omega
 ·rw[ah g,O.is _ aa]
  congr 1;omega
structure JS (a:Nat) (q:PS CE):Prop where
 saw:q.saw=false
 pos:q.pos=a
 off:¬q.off<q.bl
 one:q.one=true
structure FR (a win:Nat) (known sum:Bool) (size:Nat) (at_:Nat) (s:SS) (p:PS CE):Prop where
 K:yW p.e s
 W:yV win s.out s.ol p.L p.wl
 pos:p.pos=a+at_
 saw:p.saw=true
 wsz:p.wsz=win
 sm:p.sum=sum
 unk:p.unk = !known
 rem:known=true->p.rem+s.ol=size
 xn:sum=true->p.XN=s.ol
 xt:sum=true->∀i,i<s.ol->p.XT i=s.out i
 off:¬p.off<p.bl
 one:p.one=true
abbrev gk (dat:Nat->Nat) (N:Nat):=Rem dat N CE.ini (bG dat N)
def Cf (dat:Nat->Nat) (N:Nat) (p:PS CE) (T:List Nat) (v:Nat):Prop :=
 ((cD dat N (bG dat N) p).2=true/\∃T',T=txt (cD dat N (bG dat N) p).1.S 0 (cD dat N (bG dat N) p).1.bl++T'/\gk dat N { (cD dat N (bG dat N) p).1 with off:=(cD dat N (bG dat N) p).1.bl } T' v) \/
 ((cD dat N (bG dat N) p).2=false/\T=[]/\v=2)
theorem oD {p0 p:PS CE} {T:List Nat} {v:Nat} (h0:¬p0.off<p0.bl) (i:fI dat N CE.ini p0=(p,0)) (h:Cf dat N p T v):gk dat N p0 T v:=by
 have e:bB dat N CE.ini (bG dat N) p0=((cD dat N (bG dat N) p).1,if(cD dat N (bG dat N) p).2 then 0 else 2):=by
  unfold bB;rw[i];rfl
 rcases h with⟨a1,T',rfl,g⟩|⟨a1,rfl,rfl⟩
 ·rw[a1] at e;have:=Es (fh dat N) (T:=T') (v:=v) h0 (by rw[e];rfl) (by rw[e];exact g)
  rw[e] at this;exact this
 ·rw[a1] at e;have:=s_ (ini:=CE.ini) (cmp:=bG dat N) h0 (by rw[e];show(2:Nat)≠0;decide)
  rw[e] at this;exact this
theorem Gx {a win:Nat} {known sum:Bool} {size most:Nat} {s j:SS} {at_:Nat} {p p2:PS CE} (h:FR a win known sum size at_ s p) (ha:a<=N) (ad:win<=8388608) {k:Nat} (K:yW p2.e j) (O:En s j p2.S p2.bl most)
  (e:p2={ p with pos:=a+(at_+3+k),S:=p2.S,bl:=p2.bl,e:=p2.e }) (hk:at_+3+k<=N-a) (last:Bool) :
  ((cO dat N last p2).2=false/\known=true/\size<j.ol) \/
  (last=false/\(cO dat N last p2).2=true/\(cO dat N last p2).1.S=p2.S/\(cO dat N last p2).1.bl=p2.bl/\FR a win known sum size (at_+3+k) j { (cO dat N last p2).1 with off:=(cO dat N last p2).1.bl }) \/
  (last=true/\match oB (aX dat a) (N-a) known sum size j (at_+3+k) with
   | .op=>False
   | .wr=>(cO dat N last p2).2=false
   | .ok (s1,z)=>s1=j/\(cO dat N last p2).2=true/\(cO dat N last p2).1.S=p2.S/\(cO dat N last p2).1.bl=p2.bl/\JS (a+z) { (cO dat N last p2).1 with off:=(cO dat N last p2).1.bl }):=by
 have y:p2.unk = !known:=by rw[e];exact h.unk
 have u2:p2.rem=p.rem:=by rw[e]
 have C:p2.sum=sum:=by rw[e];exact h.sm
 have Y:p2.pos=a+(at_+3+k):=by rw[e]
 have u5:p2.L=p.L:=by rw[e]
 have u6:p2.wl=p.wl:=by rw[e]
 have u7:p2.wsz=win:=by rw[e];exact h.wsz
 have u8:p2.XN=p.XN:=by rw[e]
 have u9:p2.XT=p.XT:=by rw[e]
 have t:p2.one=true:=by rw[e];exact h.one
 have V:p2.saw=true:=by rw[e];exact h.saw
 have ho:=O.ol
 have l:=h.rem
 clear e
 unfold cO
 by_cases H:p2.unk=false/\p2.rem<p2.bl
 ·left
  rw[ai H];have g:known=true:=by
   have:=H.1
   rw[y] at this
   simpa using this
  have:=l g
  have:=H.2
  exact⟨rfl,g,aa⟩
 right
 rw[ah H]
 dsimp only
 have ab:known=true->j.ol<=size:=fun g=>by
  have:=l g
  have q:¬p2.rem<p2.bl:=fun q=>H ⟨by rw[y,g];rfl,q⟩
  omega
 have M:sum=true->∀i,i<j.ol->(if p2.sum=true then cB p2.XT p2.XN p2.S else p2.XT) i=j.out i:=fun hs i hi=>by
  rw[ai (C.trans hs),u8,u9,h.xn hs];unfold cB;by_cases r:i<s.ol
  ·rw[ai r,h.xt hs i r,O.old i r]
  ·rw[ah r,O.is _ aa]
   congr 1;omega
 have u:sum=true->(if p2.sum=true then p2.XN+p2.bl else p2.XN)=j.ol:=fun hs=>by
  rw[ai (C.trans hs),u8,h.xn hs];omega
 have I:known=true->(if p2.unk=true then p2.rem else p2.rem-p2.bl)+j.ol=size:=fun g=>by
  rw[ah (by rw[y,g];decide)]
  have:=l g
  have:=ab g
  omega
 generalize (if p2.sum=true then cB p2.XT p2.XN p2.S else p2.XT)=XT at M ⊢
 generalize (if p2.sum=true then p2.XN+p2.bl else p2.XN)=XN at u ⊢
 generalize (if p2.unk=true then p2.rem else p2.rem-p2.bl)=R at I ⊢
 cases last with
 | false =>
  left
  rw[ai rfl];exact⟨rfl,rfl,rfl,rfl,⟨K,by
   show yV win j.out j.ol (l_ p2.wsz p2.wl p2.L p2.bl p2.S) (min p2.wsz (p2.wl+p2.bl))
   rw[u5,u6,u7];exact h.W.next O aa,Y,V,u7,C,y,I,u,M,Nat.lt_irrefl _,t⟩⟩
 | true =>
  right
  refine⟨rfl,?_⟩
  rw[ah (show ¬true=false by decide)]
  unfold oB;by_cases q:known=true/\j.ol≠size
  ·rw[ai q];have:=I q.1
   rw[ai (show p2.unk=false/\R≠0 from⟨by rw[y,q.1];rfl,fun h=>q.2 aa⟩)]
  have U:¬(p2.unk=false/\R≠0):=by
   rintro⟨F,B⟩;have g:known=true:=by rw[y] at F;simpa using F
   have:=I g
   exact q ⟨g,aa⟩
  rw[ah q,ah U]
  cases sum with
  | false =>
   rw[ah Bool.false_ne_true,ai C];exact⟨rfl,rfl,rfl,rfl,⟨rfl,Y,Nat.lt_irrefl _,t⟩⟩
  | true =>
   rw[ai (rfl:true=true),ah (show ¬p2.sum=false by rw[C];decide)]
   have J:gw XT XN=gw j.out j.ol:=by rw[u rfl];exact ua (M rfl)
   have A:eX (fun i=>dat (p2.pos+i))=eX fun i=>aX dat a (at_+3+k+i):=by
    rw[Y];unfold eX aX;simp only[Nat.add_assoc]
   rw[J,A];by_cases F:N-p2.pos<4
   ·rw[ai F,ai (.inl aa)]
   rw[ah F];by_cases B:eX (fun i=>aX dat a (at_+3+k+i))=gw j.out j.ol%4294967296
   ·rw[ai B,ah (by
     rintro(h5|h5)
     ·omega
     ·exact h5 B)]
    exact⟨rfl,rfl,rfl,rfl,⟨rfl,by dsimp only;omega,Nat.lt_irrefl _,t⟩⟩
   ·rw[ah B,ai (.inr B)]
theorem Gy (hd:∀i,dat i<256) {a win most:Nat} {known sum:Bool} {size:Nat} {s:SS} {at_:Nat} {p:PS CE} (h:FR a win known sum size at_ s p) (u:win<=8388608) (g:most<=131072) (C:a<=N)
  (B:¬N-a<at_+3) (hs:¬(dB (aX dat a) at_/2%4=3\/131072<dB (aX dat a) at_/8\/N-a<at_+3+(if dB (aX dat a) at_/2%4=1 then 1 else dB (aX dat a) at_/8))) (A:¬win<dB (aX dat a) at_/8) :
  match pC (aX dat a) win most (dB (aX dat a) at_) at_ s with
  | .op=>True
  | .wr=>(cD dat N (bG dat N) p).2=false
  | .ok t=>∃p2:PS CE,yW p2.e t/\En s t p2.S p2.bl 131072/\p2={ p with pos:=a+(at_+3+(if dB (aX dat a) at_/2%4=1 then 1 else dB (aX dat a) at_/8)),S:=p2.S,bl:=p2.bl,e:=p2.e } /\
    cD dat N (bG dat N) p=cO dat N (decide (dB (aX dat a) at_%2≠0)) p2:=by
 have l:=h.pos
 have z:dB dat p.pos=dB (aX dat a) at_:=by rw[l];unfold dB aX;simp only[Nat.add_assoc]
 unfold cD pC
 rw[z]
 generalize dB (aX dat a) at_=H at *
 rw[ah (show ¬N-p.pos<3 from aa)]
 dsimp only
 have y:=h.wsz
 rw[ah (show ¬(131072<H/8\/0<p.wsz/\p.wsz<H/8) from aa)]
 by_cases k0:H/2%4=0
 ·rw[ai k0,ai k0,ah (show ¬H/2%4=1 from aa)];rw[ah (show ¬H/2%4=1 from aa)] at hs;rw[Nat.min_eq_left (show H/8<=N-(p.pos+3) from aa),ah (Nat.lt_irrefl _)];refine⟨_,?_,?_,?_,rfl⟩
  ·exact⟨h.K.tree,h.K.t0,h.K.t1,h.K.t2,h.K.r1,h.K.r2,h.K.r3,h.K.pos,h.K.lim⟩
  ·refine⟨rfl,by dsimp only;omega,fun i hi=>?_,fun i hi=>by dsimp only;exact co (.inl hi)⟩
   dsimp only at hi ⊢;unfold ov;rw[ai hi,dr aa aa];unfold aX
   congr 1;omega
  ·rw[l];simp only[Nat.add_assoc]
 rw[ah k0,ah k0]
 by_cases k:H/2%4=1
 ·rw[ai k,ai k,ai k];rw[ai k] at hs;rw[ah (show ¬N-(p.pos+3)<1 from aa)];refine⟨_,?_,?_,?_,rfl⟩
  ·exact⟨h.K.tree,h.K.t0,h.K.t1,h.K.t2,h.K.r1,h.K.r2,h.K.r3,h.K.pos,h.K.lim⟩
  ·refine⟨rfl,by dsimp only;omega,fun i hi=>?_,fun i hi=>by dsimp only;exact co (.inl hi)⟩
   dsimp only at hi ⊢;rw[ai hi,dr aa aa];unfold aX
   congr 1;omega
  ·rw[l];simp only[Nat.add_assoc]
 rw[ah k,ah k,ah k,ai (show H/2%4=2 from aa)]
 rw[ah k] at hs
 have j:=Er (N:=N) (p:={ p with pos:=p.pos+3 }) (size:=H/8) hd h.K h.W aa g (by dsimp only;omega)
 have es:aX dat (p.pos+3)=aX (aX dat a) (at_+3):=by rw[kr,l,Nat.add_assoc]
 dsimp only at j
 rw[es] at j
 generalize jS s win most (aX (aX dat a) (at_+3)) (H/8)=r at j ⊢
 generalize bG dat N { p with pos:=p.pos+3 } (H/8)=q at j ⊢
 cases r with
 | op=>trivial
 | wr =>
  have j:q.2=false:=j
  dsimp only;rw[ah (by rw[j];decide)];exact j
 | ok t =>
  obtain⟨c1,c2,c3,c4⟩:=j;dsimp only;rw[ai c1];refine⟨q.1,c2,⟨c3.ol,Nat.le_trans c3.le g,c3.is,c3.old⟩,?_,rfl⟩
  rw[c4,l];simp only[Nat.add_assoc]
theorem ED (hd:∀i,dat i<256) {a win most room:Nat} {known sum:Bool} {size:Nat} (u:win<=8388608) (y:most<=131072) (ha:a<=N) :
  ∀(f at_:Nat) (s:SS) (p:PS CE),FR a win known sum size at_ s p->s.ol<=room ->
  match fq (aX dat a) (N-a) room win most known sum size f at_ s with
  | .op=>True
  | .wr=>∃T,s.ol+T.length<=room/\Cf dat N p T 2
  | .ok (s1,z)=>∃q,JS (a+z) q/\∀T v,gk dat N q T v->Cf dat N p (txt s1.out s.ol s1.ol++T) v:=by
 intro f
 induction f with
 | zero=>intro at_ s p _ _;trivial
 | succ f ih =>
  intro at_ s p h g;rw[fq];by_cases U:N-a<at_+3
  ·rw[ai U];refine⟨[],by simpa using g,.inr ⟨?_,rfl,rfl⟩⟩
   unfold cD;rw[ai (by rw[h.pos];omega)]
  rw[ah U];dsimp only;by_cases hs:dB (aX dat a) at_/2%4=3\/131072<dB (aX dat a) at_/8\/N-a<at_+3+(if dB (aX dat a) at_/2%4=1 then 1 else dB (aX dat a) at_/8)
  ·rw[ai hs];refine⟨[],by simpa using g,.inr ⟨?_,rfl,rfl⟩⟩
   have hp:=h.pos
   have eh:dB dat p.pos=dB (aX dat a) at_:=by rw[hp];unfold dB aX;simp only[Nat.add_assoc]
   unfold cD;rw[eh];generalize dB (aX dat a) at_=H at *;rw[ah (show ¬N-p.pos<3 from aa)];dsimp only;split
   ·rfl
   rename_i hb
   split
   ·rename_i k0
    rw[ah (show ¬H/2%4=1 from aa)] at hs;rw[ai aa]
   split
   ·rename_i k1
    rw[ai k1] at hs;rw[ai aa]
   split
   ·rename_i k0 k1 k2
    rw[ah k1] at hs;have K:(bG dat N { p with pos:=p.pos+3 } (H/8)).2=false:=by
     unfold bG;dsimp only;rw[ai aa]
    rw[ah (by rw[K];decide)]
    exact K
   ·rfl
  rw[ah hs];by_cases M:win<dB (aX dat a) at_/8
  ·rw[ai M];trivial
  rw[ah M];have hb:=Gy hd h u y ha U hs M
  generalize al:pC (aX dat a) win most (dB (aX dat a) at_) at_ s=r at hb ⊢
  cases r with
  | op=>trivial
  | wr=>exact⟨[],by simpa using g,.inr ⟨hb,rfl,rfl⟩⟩
  | ok j =>
   obtain⟨p2,b1,O,b3,b4⟩:=hb;dsimp only[Ve.bind];by_cases Y:room<j.ol
   ·rw[ai Y];trivial
   rw[ah Y];generalize ad:(if dB (aX dat a) at_/2%4=1 then 1 else dB (aX dat a) at_/8)=k at *;generalize dB (aX dat a) at_=H at *;have ab:=O.ol
   have C:txt p2.S 0 p2.bl=txt j.out s.ol j.ol:=kX aa fun i hi=>by rw[Nat.zero_add];exact O.is i aa
   have he:=Gx (dat:=dat) (N:=N) (size:=size) h ha u (k:=k) b1 O b3 aa (decide (H%2≠0))
   rcases he with⟨A,t,J⟩|⟨A,t,J,V,I⟩|⟨A,t⟩
   ·
    have B:Cf dat N p [] 2:=.inr ⟨by rw[b4];exact A,rfl,rfl⟩
    by_cases hl:H%2=1
    ·rw[ai hl];unfold oB;rw[ai ⟨t,aa⟩];exact⟨[],by simpa using g,B⟩
    ·rw[ah hl]
     cases hB:fq (aX dat a) (N-a) room win most known sum size f (at_+3+k) j with
     | op=>trivial
     | wr=>exact⟨[],by simpa using g,B⟩
     | ok q =>
      obtain⟨s1,z⟩:=q;obtain⟨W,_,g3,_⟩:=iL f hB;have:=g3 t
      omega
   ·have hl:¬H%2=1:=by
     intro K;rw[K] at A;exact absurd A (by decide)
    rw[ah hl];have hi:=ih (at_+3+k) j _ I aa
    have l:∀T v,Cf dat N { (cO dat N (decide (H%2≠0)) p2).1 with off:=(cO dat N (decide (H%2≠0)) p2).1.bl } T v->Cf dat N p (txt j.out s.ol j.ol++T) v:=fun T v F=>by
     refine .inl ⟨by rw[b4];exact t,T,by rw[b4,J,V,C],?_⟩
     rw[b4];exact oD (Nat.lt_irrefl _) (by unfold fI;rw[ai I.saw]) F
    cases hB:fq (aX dat a) (N-a) room win most known sum size f (at_+3+k) j with
    | op=>trivial
    | wr =>
     rw[hB] at hi;obtain⟨T,t1,t2⟩:=hi;exact⟨_,by rw[List.length_append,de];omega,l T 2 t2⟩
    | ok q =>
     rw[hB] at hi;obtain⟨s1,z⟩:=q;obtain⟨W,g2,_⟩:=iL f hB;obtain⟨q,q1,q2⟩:=hi;refine⟨q,q1,fun T v F=>?_⟩
     have:=l _ _ (q2 T v F)
     rw[<- List.append_assoc] at this;have e:txt j.out s.ol j.ol=txt s1.out s.ol j.ol:=kX rfl fun i hi=>(g2 _ aa).symm
     rw[e,vW _ aa W] at this;exact this
   ·have hl:H%2=1:=by
     have:=of_decide_eq_true A
     omega
    rw[ai hl];generalize oB (aX dat a) (N-a) known sum size j (at_+3+k)=r at t ⊢
    cases r with
    | op=>trivial
    | wr=>exact⟨[],by simpa using g,.inr ⟨by rw[b4];exact t,rfl,rfl⟩⟩
    | ok q =>
     obtain⟨s1,z⟩:=q;obtain⟨rfl,J,V,I,e6⟩:=t;refine⟨_,e6,fun T v F=>.inl ⟨by rw[b4];exact J,T,by rw[b4,V,I,C],?_⟩⟩
     rw[b4];exact F
end Go.Proofs.YtogmacnlpclgkaaGreatDoor
