/- Texts P22. -/
import Derived.Test.YtogmacnlpclgkaaGreatDoorZL2
import Derived.Test.YtogmacnlpclgkaaGreatDoorZL6
set_option linter.all false
namespace Go.Proofs.YtogmacnlpclgkaaGreatDoor
open Go Go.Eng Go.Pz
set_option maxRecDepth 20000
variable {D:Nat->Nat} {n L:Nat} {tx:Nat->Nat}
theorem ze (C:bw D 0=4247762216) (y:dB D (5+cJ (D 4))=8*L+1) (ht:∀i,i<L->D (5+cJ (D 4)+3+i)=tx i)
  (u:n=5+cJ (D 4)+3+L+(if dg (D 4)=true then 4 else 0)) {O:Nat->Nat} {l:Nat} (h:cP D n = .ok (O,l)):l=L/\∀i,i<L->O i=tx i:=by
 generalize hd:D 4=d at y ht u
 unfold cP at h
 obtain⟨k,z⟩:∃k,n=k+2:=⟨n-2,aa⟩
 rw[show df D n n 0 (fun _=>0) 0=df D n (k+1+1) 0 (fun _=>0) 0 by rw[z],df,ai aa,show aX D 0=D from funext fun i=>by unfold aX;rw[Nat.zero_add],Nat.sub_zero,Nat.sub_zero] at h
 obtain⟨r,p,h⟩:=Ve.bind_some h
 have key:r.2.1=L/\(∀i,i<L->r.1 i=tx i)/\r.2.2=n:=by
  unfold gy at p;rw[ah aa,C,ah (by decide),ah aa] at p
  obtain⟨q,j,p⟩:=Ve.bind_some p;have I:q.2.2=5+cJ d:=by
   unfold jo at j;rw[hd] at j;dsimp only at j;obtain⟨_,j⟩:=Ve.ite_wr j;obtain⟨_,j⟩:=Ve.ite_wr j;obtain⟨_,j⟩:=Ve.ite_wr j;obtain⟨_,j⟩:=Ve.ite_op j;obtain⟨_,j⟩:=Ve.ite_op j;cases j
   rfl
  obtain⟨s,g,p⟩:=Ve.bind_some p;cases p;dsimp only;rw[hd,show fq D n 4194304 q.2.1 (if aD d=true then 131072 else min 131072 q.2.1) (bC d != 0) (dg d) q.1 n q.2.2 SS.zero=fq D n 4194304 q.2.1 (if aD d=true then 131072 else min 131072 q.2.1) (bC d != 0) (dg d) q.1 (k+1+1) q.2.2 SS.zero by rw[z],I,fq] at g
  obtain⟨_,g⟩:=Ve.ite_wr g;dsimp only at g;rw[y] at g;obtain⟨_,g⟩:=Ve.ite_wr g;obtain⟨_,g⟩:=Ve.ite_op g;obtain⟨J,t,g⟩:=Ve.bind_some g;unfold pC at t;rw[ai aa] at t;cases t;obtain⟨_,g⟩:=Ve.ite_op g;rw[ai aa,ah aa,show(8*L+1)/8=L from aa] at g;unfold oB at g;obtain⟨_,g⟩:=Ve.ite_wr g;have A:∀i,i<L->fj SS.zero.out SS.zero.ol L (aX D (5+cJ d+3)) i=tx i:=fun i hi=>by
   rw[show SS.zero.ol=0 from rfl,dr (Nat.zero_le _) aa];exact ht i hi
  by_cases hs:dg d=true
  ·rw[ai hs] at g u;obtain⟨_,g⟩:=Ve.ite_wr g;cases g;refine⟨by show 0+L=L;omega,A,by dsimp only;omega⟩
  ·rw[ah hs] at g u;cases g;refine⟨by show 0+L=L;omega,A,by dsimp only;omega⟩
 obtain⟨B,F,H⟩:=key
 rw[B,H,df,ah aa] at h
 cases h
 refine⟨Nat.zero_add _,fun i hi=>?_⟩
 rw[dr (Nat.zero_le _) aa]
 exact F i hi
end Go.Proofs.YtogmacnlpclgkaaGreatDoor
namespace Go.Proofs.YtogmacnlpclgkaaGreatDoor
open Go Go.Eng Go.Pz
attribute [local irreducible] RO J av aO
set_option maxRecDepth 20000
variable {G:ao} {dat:Nat->Nat} {N:Nat}
def ES (g:Option Addr) (n h at_:Nat):bk:=aj [.slice g n h,ay at_] 63
theorem GL (h:Nat) (l:Option Addr) (n i:Nat) (z:Nat->Int) (M:fR G l n i z) (at_ k:Nat) (I:at_<=1000) (V:k<=1000) (U:n<=2^40) :
  av Tryz.prog G 34 #[bf h,ay k] [(h,ES l n i at_)] (fun v m=>∃y at',v=ay y/\(y=0\/y<k)/\at'<=at_+1/\m=[(h,ES l n i at')]):=by
 refine bE Tryz.func34 fun c h0 hex=>?_
 refine go ?_
 refine aJ 12 rfl (fun O=>?_) (fun O=>?_)
 ·refine go ?_;exact af (ag [4] ⟨0,at_,rfl,.inl rfl,Nat.le_succ _,rfl⟩)
 refine go ?_
 refine ac rfl (fun C=>?_) (fun C=>?_)
 ·refine go ?_;exact af (ag [4] ⟨0,at_,rfl,.inl rfl,Nat.le_succ _,rfl⟩)
 have g:0<n:=aa
 obtain⟨b,o,B,rfl,hB,H,j⟩:=M.some g
 have p:=Nat.mod_lt at_ g
 refine go ?_
 generalize at_%n=q at p ⊢
 refine aK (v:=.int .i64 (z q)) rfl rfl (List.mem_append.2 (.inr hB)) aa (j q p) rfl ?_
 refine go ?_
 refine uN rfl rfl aa rfl ?_
 have J:(z q).tmod k<k:=Int.tmod_lt_of_pos _ aa
 have K : -(k:Int)<(z q).tmod k:=Int.lt_tmod_of_pos _ aa
 generalize (z q).tmod k=r at J K
 refine go ?_
 refine bp (σ:=Nat) [] (fun y=>[(5,ay y)]) (fun _=>[(h,ES (some ⟨b,o,none⟩) n i (at_+1))]) (fun y=>y<k) ?_ ?_
 ·refine ac rfl (fun u=>?_) (fun t=>?_)
  ·refine go ?_;exact⟨(r+k).toNat,aa,⟨by show Value.int _ _=Value.int _ _;congr 1;omega,trivial⟩,.cons dT .nil⟩
  ·refine go ?_;exact⟨r.toNat,aa,⟨by show Value.int _ _=Value.int _ _;congr 1;omega,trivial⟩,.cons dT .nil⟩
 rintro y f F
 refine go ?_
 exact af (ag [4] ⟨y,at_+1,rfl,.inr F,aZ _,rfl⟩)
structure GM (h:Nat) (A:Nat->Nat):Prop where
 lt:∀i,A i<256
 m:bw A 0=4247762216
 h:A 4=h
theorem GM.app {h len:Nat} {A b:Nat->Nat} (hA:GM h A) (hl:5<=len) (hb:∀i,b i<256):GM h (gY len A b) where
 lt:=lP hA.lt hb
 m:=(nB fun i hi=>lL aa).trans hA.m
 h:=by rw[lL aa];exact hA.h
theorem He:∀h,h<256->h&&&32=h/32%2*32:=by decide
theorem Kj:∀h,h<256->h&&&4=h/4%2*4:=by decide
theorem GN {A:Nat->Nat} {K L:Nat} (g:L<=4096):dB (gY K A (iZ (8*L+1))) K=8*L+1:=by
 unfold dB
 rw[rL aa,rL aa,rL aa,Nat.sub_self,Nat.add_sub_cancel_left,Nat.add_sub_cancel_left,DE,DF,DG]
 omega
theorem uJ {A B:Nat->Nat} {K len:Nat} (g:K+3<=len):dB (gY len A B) K=dB A K:=by
 unfold dB
 rw[lL aa,lL aa,lL aa]
theorem GO (g:Option Addr) (L h:Nat) (tx:Nat->Nat) (hx:∀i,tx i<256) (j:aU G g L h tx) (k:L<=2^31) :
  av Tryz.prog G 35 #[.slice g L h] [] (fun v _=>∃w:Nat,w<4294967296/\v = .int .u32 (w:Nat)) :=
 (G8 g L h tx hx j k).mono fun _ _ e=>⟨_,Nat.mod_lt _ (by decide),e⟩
theorem Cq {P:Program} [ty:bA P] {qs:List FuncId} {c:World} {n:Nat} {h0:dx} {ops:Array Oper} {Q:Fr->ao->Prop} {rest:List Oper} {f:Fr} {m:ao} {d:Option Tmp} {T T' tt:TypeId} {pos:String} {aft:Array Edge} {x y:Operand} (L:Nat) (hx:ev f x = .int .u64 (L:Nat)) (i:ev f y = .int .u64 256) (hd:aE n d=true)
  (h:∀w:Nat,RO P G qs c n h0 ops Q rest (aV f d (.int .u64 (w:Nat))) m):RO P G qs c n h0 ops Q (⟨d,.binOp .sub T x y T',tt,pos,aft,none⟩::rest) f m:=by
 refine dq hx i rfl hd ?_
 obtain⟨w,g⟩:∃w:Nat,IntKind.u64.wrap ((L:Int)-256)=(w:Int):=by
  refine⟨(IntKind.u64.wrap ((L:Int)-256)).toNat,?_⟩
  have:0<=IntKind.u64.wrap ((L:Int)-256):=by
   simp[IntKind.wrap,IntKind.bits,IntKind.signed]
   omega
  omega
 rw[g]
 exact h w
theorem JK (i:Nat):bQ [Value.int .u8 0] i = .int .u8 ((0:Nat):Int):=by
 unfold bQ
 show[Value.int .u8 0].getD (i%1) undef=_
 rw[Nat.mod_one];rfl
theorem ET {M:ao} {b k:Nat} {x:Nat->Nat} {T:TypeId} (hB:(b,bn .u8 (k*(0+1)) x T)∈M):aU M (bi b) k k x :=
 ⟨aZ _,.inr ⟨b,0,_,rfl,hB,fun _=>by show 0+k<=k*(0+1);omega,fun i _=>by show Value.int .u8 ((x (0+i):Nat):Int)=_;rw[Nat.zero_add]⟩⟩
theorem GP {h:Nat} (j:h<256):cJ h<=13:=by
 have g:aQ h<=1:=by unfold aQ;cases aD h<;>decide
 have i:aB h<=4:=by unfold aB;split<;>omega
 have k:bC h<=8:=by
  unfold bC;have e:h/64=0\/h/64=1\/h/64=2\/h/64=3:=aa
  rcases e with e|e|e|e<;>rw[e]
  ·cases aD h<;>decide
  ·rw[ah (by decide)];decide
  ·rw[ah (by decide)];decide
  ·rw[ah (by decide)];decide
 unfold cJ
 omega
structure Kk where
 oa:Option Addr
 cp:Nat
 A:Nat->Nat
 at_:Nat
 sm:ao
 j:ao
set_option maxHeartbeats 2000000 in
theorem EU (oa:Option Addr) (L cp:Nat) (tx:Nat->Nat) (bq:∀i,tx i<256) (hv:aU G oa L cp tx) (hL:L<=4096) (h:Nat) (hh:h<256) (F:Option Addr) (n H:Nat) (z:Nat->Int) (hz:fR G F n H z) (hn:n<=2^31) :
  av Tryz.prog G 22 #[.slice oa L cp,.int .u8 (h:Nat),.slice F n H] [] (fun v m=>∃bv bt D l,v = .slice bv l bt/\dH 1 (.slice bv l bt) l (dw D) m/\GM h D/\l=5+cJ h+3+L+(if dg h=true then 4 else 0)/\dB D (5+cJ h)=8*L+1/\∀i,i<L->D (5+cJ h+3+i)=tx i):=by
 refine bE Tryz.func22 fun c h0 hex=>?_
 have da:aQ h<=1:=by unfold aQ;cases aD h<;>decide
 refine go ?_
 refine oC (vs:=[.slice F n H,.int .i64 ((0:Nat):Int)]) [(0,1),(1,1)] rfl rfl rfl z63 rfl rfl ?_
 refine go ?_
 refine kw (vs:=[.slice F n H,.int .i64 ((0:Nat):Int)]) rfl rfl rfl hex fun M dl=>?_
 refine go ?_
 refine ar (mL 4247762216 4 aa) ?_ (fm:=[(M,ES F n H 0)]) (hs:=.of_perm (.refl _))
 rintro v dm ⟨a1,c1,rfl,h1⟩
 refine go ?_
 refine au (z:=.int .u8 0) (vs:=[.int .u8 (h:Nat)]) rfl rfl z5 rfl rfl rfl rfl hex fun b1 ds=>?_
 refine go ?_
 refine eP (fm:=[(b1,aj [.int .u8 (h:Nat)] 5),(M,ES F n H 0)]) rfl rfl rfl rfl z5 (by decide) rfl rfl h1 an rfl (nA (b:=b1) [h] (B:=aj [.int .u8 (h:Nat)] 5) (by simp) (aZ 1) fun i hi=>(match i,hi with
  | 0,_=>rfl)) (by show 4+1<=_;omega) hex rfl ?_
 intro a2 c2 s1 bb
 have hA1:GM h (gY 4 (iZ 4247762216) fun i=>[h].getD i 0):=⟨lP (lQ _) (pt fun v hv=>by rw[List.mem_singleton.1 hv];exact hh),by
  exact(nB fun i hi=>(lL aa).trans (congrArg _ (Nat.zero_add i))).trans (vZ 4247762216 (by decide)),rfl⟩
 generalize (gY 4 (iZ 4247762216) fun i=>[h].getD i 0)=A1 at bb hA1
 refine go ?_
 generalize ax:h&&&32=q32
 have ax:=ax.symm.trans (He h hh)
 refine bp (σ:=Kk) [] (fun t=>[(0,.slice oa L cp),(1,.int .u8 (h:Nat)),(7,bf M),(8,.slice t.oa (5+aQ h) t.cp)]) (fun t=>t.sm++((M,ES F n H t.at_)::t.j))
  (fun t=>dH 1 (.slice t.oa (5+aQ h) t.cp) (5+aQ h) (dw t.A) t.sm/\GM h t.A/\t.at_<=2) ?_ ?_
 ·refine ac rfl (fun h2=>?_) (fun h2=>?_)
  ·have hw:aQ h=1:=by unfold aQ aD;rw[ah (by simp;omega)]
   refine go ?_;refine ar (GL M F n H z hz 0 10 aa aa aa) ?_ (fm:=(b1,aj [.int .u8 (h:Nat)] 5)::s1) (hs:=.of_perm an)
   rintro v m ⟨y1,ce,rfl,cx,ch,rfl⟩;refine go ?_;refine ar (GL M F n H z hz ce 8 aa aa aa) ?_ (fm:=(b1,aj [.int .u8 (h:Nat)] 5)::s1) (hs:=.of_perm an)
   rintro v m ⟨y2,at2,rfl,cS,cn,rfl⟩;refine go ?_;refine nZ ((2+y1)*2^3) y2 rfl rfl (by show _<2^63;omega) (by show _<2^63;omega) rfl ?_
   generalize (2+y1)*2^3|||y2=w;refine go ?_;have ab:w%256<256:=Nat.mod_lt _ (by decide)
   generalize w%256=Y at ab;refine au (z:=.int .u8 0) (vs:=[.int .u8 (Y:Nat)]) rfl rfl z5 rfl rfl rfl rfl hex fun b2 b6=>?_
   refine go ?_;refine eP (sm:=s1) (fm:=[(b2,aj [.int .u8 (Y:Nat)] 5),(b1,aj [.int .u8 (h:Nat)] 5),(M,ES F n H at2)]) rfl rfl rfl rfl z5 (by decide) rfl rfl bb an rfl (nA (b:=b2) [Y] (B:=aj [.int .u8 (Y:Nat)] 5) (by simp) (aZ 1) fun i hi=>(match i,hi with
    | 0,_=>rfl)) (by show 4+1+1<=_;omega) hex rfl ?_ (hQ:=fun _ _ _ e h=>by obtain⟨s,hi,hs,hm⟩:=h;exact⟨s,hi,hs,e.trans hm⟩)
   intro a3 c3 s3 ad;refine go ?_;exact⟨⟨a3,c3,_,at2,s3,[(b2,aj [.int .u8 (Y:Nat)] 5),(b1,aj [.int .u8 (h:Nat)] 5)]⟩,⟨by dsimp only;rw[hw];exact ad,hA1.app (aZ 5) (pt fun v hv=>by rw[List.mem_singleton.1 hv];exact ab),by dsimp only;omega⟩,⟨rfl,rfl,rfl,by dsimp only;rw[hw];rfl,trivial⟩,.of_perm an⟩
  ·have hw:aQ h=0:=by unfold aQ aD;rw[ai (by simp;omega)]
   refine go ?_;exact⟨⟨a2,c2,A1,0,s1,[(b1,aj [.int .u8 (h:Nat)] 5)]⟩,⟨by dsimp only;rw[hw];exact bb,hA1,Nat.zero_le _⟩,⟨rfl,rfl,rfl,by dsimp only;rw[hw];rfl,trivial⟩,.of_perm an⟩
 rintro⟨a3,c3,A3,at3,s3,j3⟩ f ⟨ad,bs,b3⟩
 dsimp only at ad bs b3 ⊢
 refine go ?_
 refine au (z:=.int .i64 0) (vs:=[.int .i64 0,.int .i64 1,.int .i64 2,.int .i64 4]) rfl rfl z3 rfl rfl rfl rfl hex fun tb cs=>?_
 have cu:aB h<=4:=by unfold aB;split<;>omega
 have cd:(aj [.int .i64 0,.int .i64 1,.int .i64 2,.int .i64 4] 3).g (0+h%4) = .int .i64 (aB h:Nat):=by
  have e:h%4=0\/h%4=1\/h%4=2\/h%4=3:=aa
  unfold aB;rcases e with e|e|e|e<;>rw[e]<;>rfl
 refine go ?_
 refine aK (v:=.int .i64 (aB h:Nat)) rfl rfl (b:=tb) (B:=aj [.int .i64 0,.int .i64 1,.int .i64 2,.int .i64 4] 3) (by simp) (by show 0+h%4<4;omega) cd rfl ?_
 refine go ?_
 refine gm (len:=aB h) (cap:=aB h) rfl rfl rfl rfl z5 (by decide) (aZ _) aa hex rfl fun ib dc=>?_
 refine bj (m':=(ib,bn .u8 (aB h*(0+1)) (fun _=>0) 5)::(tb,aj [.int .i64 0,.int .i64 1,.int .i64 2,.int .i64 4] 3)::(s3++((M,ES F n H at3)::j3))) (.cons (c9 fun i _=>JK i) (.refl _)) ?_
 refine aS _ ?_
 refine dk ?_
 refine bp (σ:=Kk) [] (fun t=>[(0,.slice oa L cp),(1,.int .u8 (h:Nat)),(8,.slice a3 (5+aQ h) c3),(9,.slice (bi ib) (aB h) (aB h))]) (fun t=>s3++((ib,bn .u8 (aB h*(0+1)) t.A 5)::t.j)) (fun t=>∀i,t.A i<256) ?_ ?_
 ·refine go ?_;refine aJ 41 rfl (fun b7=>?_) (fun b7=>?_)
  ·refine go ?_;refine ar (GL M F n H z hz at3 6 aa aa aa) ?_ (fm:=(ib,bn .u8 (aB h*(0+1)) (fun _=>0) 5)::(tb,aj [.int .i64 0,.int .i64 1,.int .i64 2,.int .i64 4] 3)::(s3++j3)) (hs:=.of_perm an)
   rintro v m ⟨y,at4,rfl,hy,cm,rfl⟩;refine go ?_;refine ac rfl (fun h5=>?_) (fun h5=>?_)
   ·refine go ?_;refine ar (GL M F n H z hz at4 (aB h) aa aa aa) ?_ (fm:=(ib,bn .u8 (aB h*(0+1)) (fun _=>0) 5)::(tb,aj [.int .i64 0,.int .i64 1,.int .i64 2,.int .i64 4] 3)::(s3++j3)) (hs:=.of_perm an)
    rintro v m ⟨y',at5,rfl,b9,cr,rfl⟩;have b9:y'<aB h:=aa
    refine go ?_;refine ke (v:=1) (z:=fun _=>0) (N:=aB h*(0+1)) (T1:=5) rfl rfl rfl rfl .here aa hex ?_
    refine go ?_;exact⟨⟨none,0,cV (fun _=>0) (0+y') 1,0,[],(tb,aj [.int .i64 0,.int .i64 1,.int .i64 2,.int .i64 4] 3)::(j3++[(M,ES F n H at5)])⟩,fun i=>by show(if i=0+y' then 1 else 0)<256;split<;>omega,cF,.of_perm an⟩
   ·refine go ?_;exact⟨⟨none,0,fun _=>0,0,[],(tb,aj [.int .i64 0,.int .i64 1,.int .i64 2,.int .i64 4] 3)::(j3++[(M,ES F n H at4)])⟩,fun _=>by show 0<256;omega,cF,.of_perm an⟩
  ·refine go ?_;exact⟨⟨none,0,fun _=>0,0,[],(tb,aj [.int .i64 0,.int .i64 1,.int .i64 2,.int .i64 4] 3)::(j3++[(M,ES F n H at3)])⟩,fun _=>by show 0<256;omega,cF,.of_perm an⟩
 rintro⟨_,_,x,_,_,j4⟩ f hx
 dsimp only at hx ⊢
 refine go ?_
 refine eP (sm:=s3) (fm:=(ib,bn .u8 (aB h*(0+1)) x 5)::j4) rfl rfl rfl rfl z5 (by decide) rfl rfl ad (.refl _) rfl (ET (b:=ib) (k:=aB h) (x:=x) (T:=5) (List.mem_append.2 (.inl (List.mem_append.2 (.inr List.mem_cons_self))))) aa hex rfl ?_
 intro a4 c4 s4 O
 have am:=bs.app (len:=5+aQ h) aa hx
 generalize gY (5+aQ h) A3 x=A4 at O am
 have hF:bC h<=8:=by
  unfold bC;have e:h/64=0\/h/64=1\/h/64=2\/h/64=3:=aa
  rcases e with e|e|e|e<;>rw[e]
  ·cases aD h<;>decide
  ·rw[ah (by decide)];decide
  ·rw[ah (by decide)];decide
  ·rw[ah (by decide)];decide
 generalize c0:(ib,bn .u8 (aB h*(0+1)) x 5)::j4=j5 at *
 refine JN ?_
 refine bp (σ:=Kk) [] (fun t=>[(0,.slice oa L cp),(1,.int .u8 (h:Nat)),(8,.slice t.oa (5+cJ h) t.cp)]) (fun t=>t.sm++t.j) (fun t=>dH 1 (.slice t.oa (5+cJ h) t.cp) (5+cJ h) (dw t.A) t.sm/\GM h t.A) ?_ ?_
 ·have q:∀k,bC h=k->5+cJ h=5+aQ h+aB h+k:=fun k U=>by unfold cJ;omega
  have be:∀k,h/64=k->k≠0->bC h=2^k:=fun k U h0=>by unfold bC;rw[U,ah h0]
  have bu:h/64=0->bC h=if aD h then 1 else 0:=fun U=>by unfold bC;rw[ai U]
  have V:∀(w k:Nat),k<=8->bC h=k->∀(a:Option Addr) (cc:Nat) (sm:ao),dH 1 (.slice a (5+aQ h+aB h+k) cc) (5+aQ h+aB h+k) (dw (gY (5+aQ h+aB h) A4 (iZ w))) sm->dH 1 (.slice a (5+cJ h) cc) (5+cJ h) (dw (gY (5+aQ h+aB h) A4 (iZ w))) sm/\GM h (gY (5+aQ h+aB h) A4 (iZ w)):=fun w k _ U a cc sm hs=>by
   rw[q k U];exact⟨hs,am.app aa (lQ _)⟩
  refine go ?_;refine ac rfl (fun e0=>?_) (fun e0=>?_)
  ·have u:h/64=0:=aa
   refine go ?_;generalize a0:h&&&32=r32;have a0:=a0.symm.trans (He h hh)
   refine ac rfl (fun es=>?_) (fun es=>?_)
   ·have bm:aD h=true:=by unfold aD;simp;omega
    have U:=q 1 (by rw[bu u,bm];rfl)
    refine go ?_;have ab:L%256<256:=Nat.mod_lt _ (by decide)
    generalize L%256=Y at ab ⊢;refine au (z:=.int .u8 0) (vs:=[.int .u8 (Y:Nat)]) rfl rfl z5 rfl rfl rfl rfl hex fun b2 b6=>?_
    refine go ?_;refine eP (sm:=s4) (fm:=(b2,aj [.int .u8 (Y:Nat)] 5)::j5) rfl rfl rfl rfl z5 (by decide) rfl rfl O an rfl (nA (b:=b2) [Y] (B:=aj [.int .u8 (Y:Nat)] 5) (by simp) (aZ 1) fun i hi=>(match i,hi with
     | 0,_=>rfl)) (by show 5+aQ h+aB h+1<=_;omega) hex rfl ?_ (hQ:=fun _ _ _ e h=>by obtain⟨s,hi,hs,hm⟩:=h;exact⟨s,hi,hs,e.trans hm⟩)
    intro W c5 J r;refine go ?_;exact⟨⟨W,c5,_,0,J,(b2,aj [.int .u8 (Y:Nat)] 5)::j5⟩,⟨by dsimp only;rw[U];exact r,am.app aa (pt fun v hv=>by rw[List.mem_singleton.1 hv];exact ab)⟩,⟨rfl,rfl,by show Value.slice _ _ _=Value.slice _ _ _;rw[U],trivial⟩,.of_perm an⟩
   ·have bm:aD h=false:=by unfold aD;simp;omega
    have U:=q 0 (by rw[bu u,bm];rfl)
    refine go ?_;exact⟨⟨a4,c4,A4,0,s4,j5⟩,⟨by dsimp only;rw[U];exact O,am⟩,⟨rfl,rfl,by show Value.slice _ _ _=Value.slice _ _ _;rw[U];rfl,trivial⟩,.of_perm an⟩
  refine go ?_;refine ac rfl (fun e1=>?_) (fun e1=>?_)
  ·have u:h/64=1:=aa
   refine go ?_;refine Cq L rfl rfl rfl fun w=>?_
   refine go ?_;have C:bC h=2:=be 1 u (by decide)
   refine ar (mL w 2 aa) ?_ (fm:=j5++s4) (hs:=.of_perm an)
   rintro v I ⟨al,cl,rfl,hl⟩;refine go ?_;refine eP (sm:=s4) (fm:=j5++I) rfl rfl rfl rfl z5 (by decide) rfl rfl O an rfl ((b_ hl).mono fun p hp=>by simp[hp]) aa hex rfl ?_ (hQ:=fun _ _ _ e h=>by obtain⟨s,hi,hs,hm⟩:=h;exact⟨s,hi,hs,e.trans hm⟩)
   intro W c5 J r;refine go ?_;exact⟨⟨W,c5,_,0,J,j5++I⟩,V w 2 aa C W c5 J r,⟨rfl,rfl,by show Value.slice _ _ _=Value.slice _ _ _;rw[q 2 C],trivial⟩,.of_perm an⟩
  refine go ?_;refine ac rfl (fun e2=>?_) (fun e2=>?_)
  ·have u:h/64=2:=aa
   refine go ?_;have C:bC h=4:=be 2 u (by decide)
   refine ar (mL L 4 aa) ?_ (fm:=j5++s4) (hs:=.of_perm an)
   rintro v I ⟨al,cl,rfl,hl⟩;refine go ?_;refine eP (sm:=s4) (fm:=j5++I) rfl rfl rfl rfl z5 (by decide) rfl rfl O an rfl ((b_ hl).mono fun p hp=>by simp[hp]) aa hex rfl ?_ (hQ:=fun _ _ _ e h=>by obtain⟨s,hi,hs,hm⟩:=h;exact⟨s,hi,hs,e.trans hm⟩)
   intro W c5 J r;refine go ?_;exact⟨⟨W,c5,_,0,J,j5++I⟩,V L 4 aa C W c5 J r,⟨rfl,rfl,by show Value.slice _ _ _=Value.slice _ _ _;rw[q 4 C],trivial⟩,.of_perm an⟩
  refine go ?_;refine ac rfl (fun e3=>?_) (fun e3=>absurd aa e3)
  ·have u:h/64=3:=aa
   refine go ?_;have C:bC h=8:=be 3 u (by decide)
   refine ar (mL L 8 aa) ?_ (fm:=j5++s4) (hs:=.of_perm an)
   rintro v I ⟨al,cl,rfl,hl⟩;refine go ?_;refine eP (sm:=s4) (fm:=j5++I) rfl rfl rfl rfl z5 (by decide) rfl rfl O an rfl ((b_ hl).mono fun p hp=>by simp[hp]) aa hex rfl ?_ (hQ:=fun _ _ _ e h=>by obtain⟨s,hi,hs,hm⟩:=h;exact⟨s,hi,hs,e.trans hm⟩)
   intro W c5 J r;refine go ?_;exact⟨⟨W,c5,_,0,J,j5++I⟩,V L 8 aa C W c5 J r,⟨rfl,rfl,by show Value.slice _ _ _=Value.slice _ _ _;rw[q 8 C],trivial⟩,.of_perm an⟩
 rintro⟨W,c5,A5,_,J,j6⟩ f ⟨r,b4⟩
 dsimp only at r b4 ⊢
 have hK:5+cJ h<=18:=by unfold cJ;omega
 generalize cN:5+cJ h=K at *
 refine go ?_
 refine nZ (L*2^3) 1 rfl rfl (by show _<2^63;omega) (by decide) rfl ?_
 rw[Jv]
 refine go ?_
 refine ar (mL (8*L+1) 3 aa) ?_ (fm:=J++j6) (hs:=.of_perm an)
 rintro v I ⟨al,cl,rfl,hl⟩
 refine go ?_
 refine eP (sm:=J) (fm:=j6++I) rfl rfl rfl rfl z5 (by decide) rfl rfl r an rfl ((b_ hl).mono fun p hp=>by simp[hp]) aa hex rfl ?_
 intro a6 c6 s6 ca
 refine go ?_
 refine eP (sm:=s6) (fm:=j6++I) rfl rfl rfl rfl z5 (by decide) rfl rfl ca an rfl hv.add aa hex rfl ?_
 intro a7 c7 s7 bc
 have bo:GM h (gY (K+3) (gY K A5 (iZ (8*L+1))) tx):=(b4.app aa (lQ _)).app aa bq
 have ba:dB (gY (K+3) (gY K A5 (iZ (8*L+1))) tx) K=8*L+1:=(uJ (aZ _)).trans (GN hL)
 have bd:∀i,i<L->gY (K+3) (gY K A5 (iZ (8*L+1))) tx (K+3+i)=tx i:=fun i _=>by rw[rL aa];congr 1;omega
 generalize gY (K+3) (gY K A5 (iZ (8*L+1))) tx=A7 at bc bo ba bd
 refine go ?_
 generalize br:h&&&4=q4
 have br:=br.symm.trans (Kj h hh)
 refine ac rfl (fun h4=>?_) (fun h4=>?_)
 ·have a9:dg h=true:=by unfold dg;simp;omega
  refine go ?_;refine ar (GO oa L cp tx bq hv aa) ?_ (fm:=j6++(I++s7)) (hs:=.of_perm an)
  rintro v um ⟨w,hw,rfl⟩;refine go ?_;refine ar (mL w 4 aa) ?_ (fm:=j6++(I++(s7++um))) (hs:=.of_perm an)
  rintro v wm ⟨aw,cw,rfl,b8⟩;refine go ?_;refine eP (sm:=s7) (fm:=j6++(I++(um++wm))) rfl rfl rfl rfl z5 (by decide) rfl rfl bc an rfl ((b_ b8).mono fun p hp=>by simp[hp]) aa hex rfl ?_
  intro a8 c8 s8 b5;refine go ?_;exact af (cE [6] (s8) ⟨a8,c8,_,_,rfl,b5,bo.app aa (lQ _),by rw[ai a9],(uJ aa).trans ba,fun i hi=>by rw[lL aa];exact bd i hi⟩ (.of_perm List.perm_append_comm))
 ·have a9:¬dg h=true:=by unfold dg;simp;omega
  refine go ?_;exact af (cE [6] (s7) ⟨a7,c7,A7,_,rfl,bc,bo,by rw[ah a9];rfl,ba,bd⟩ (.of_perm List.perm_append_comm))
set_option maxHeartbeats 1000000 in
theorem qx (S:bN G) (V:jW G) (hd:∀i,dat i<256) (oa:Option Addr) (cp:Nat) (hv:aU G oa N cp dat) (ob:Option Addr) (n cq:Nat) (z:Nat->Int) (hz:fR G ob n cq z) :
  av Tryz.prog G 7 #[.slice oa N cp,.slice ob n cq] [] (fun v _=>v = .bool true):=by
 obtain⟨fb,am,al,ax⟩:=V.fz
 refine bE Tryz.func7 fun c h0 hex=>?_
 refine go ?_
 refine aJ 13 rfl (fun h1=>?_) (fun h1=>?_)
 ·refine go ?_;exact af (ag [4] rfl)
 refine go ?_
 refine ac rfl (fun h2=>?_) (fun h2=>?_)
 ·refine go ?_;exact af (ag [4] rfl)
 have hn:n<=2147483647:=aa
 refine go ?_
 refine ac rfl (fun h3=>?_) (fun h3=>?_)
 ·refine go ?_;refine ae (cf S fb am al ax) ?_ (fm:=_) (hs:=.refl _)
  rintro v m rfl;refine go ?_;exact af (bx [4] rfl)
 have hN:N<=4096:=aa
 refine go ?_
 refine aH (σ:=Nat×ao) [] (fun t=>[(0,.slice oa N cp),(1,.slice ob n cq),(22,ay t.1)]) (fun t=>t.2) (fun t=>t.1<=256) (fun t=>256-t.1) (0,[]) (.refl _) (Nat.zero_le _) ?_
 rintro⟨i,C⟩ f hi
 dsimp only at hi ⊢
 refine go ?_
 refine ac rfl (fun a8=>?_) (fun a7=>?_)
 ·have H:i<256:=aa
  have hA:=GP H
  refine go ?_;refine ar (EU oa N cp dat hd hv hN i H ob n cq z hz aa) ?_ (fm:=C) (hs:=.of_perm an)
  rintro v u ⟨od,cd,D,l,rfl,a4,M,hl,hh,ht⟩;have K:=b_ a4
  have ba:l<=5000:=by
   rw[hl];have:(if dg i=true then 4 else 0)<=4:=by split<;>omega
   omega
  refine go ?_;refine ar (av.freeze (fm:=u) (fi od l cd M.lt (K.mono fun p U=>List.mem_append.2 (.inl U)) aa)) ?_ (fm:=C) (hs:=.of_perm an)
  rintro v m ⟨m1,aw,rfl⟩;obtain⟨k,B,j,W,q,I,g,rfl,a2⟩:=aw.form;clear aw;refine go ?_;refine aC z29 rfl hex fun J a9=>?_
  refine go ?_;refine ak (s:=2) (vs:=[.slice k B j,ay W,.slice q I g]) rfl rfl rfl rfl (cC rfl) .here (aZ 3) rfl hex ?_
  refine bj (m':=(J,cK k B j W q I g)::(C++(m1++u))) ci ?_
  refine go ?_;refine ac rfl (fun h4=>?_) (fun h4=>?_)
  ·refine go ?_;exact⟨(i+1,(J,cK k B j W q I g)::(C++(m1++u))),by dsimp only;omega,by dsimp only;omega,cF,.refl _⟩
  rcases a2 with⟨rfl,O1,O,Y,e1,_,rfl,a6,_⟩|⟨_,rfl,⟨rfl,e1⟩|⟨rfl,_⟩⟩
  ·obtain⟨a5,hO⟩:=ze (D:=D) (n:=l) (L:=N) (tx:=dat) M.m (by rw[M.h];exact hh) (by rw[M.h];exact ht) (by rw[M.h];exact hl) e1
   subst a5;refine go ?_;refine ar (av.freeze (fm:=u) (lO (S.add u) (V.add u) M.lt od cd (K.mono fun p U=>List.mem_append.2 (.inl U)) aa (by rw[e1];exact fun h=>by cases h))) ?_ (fm:=(J,cK k B j 1 q I g)::(C++(O++Y))) (hs:=.of_perm an)
   rintro v m ⟨F,y,rfl⟩;rw[e1] at y;obtain⟨ad,ab,O2,rfl,a0,a1⟩:=y;refine go ?_;refine tT (r:=false) rfl rfl rfl rfl rfl ?_
   refine go ?_;refine ar (av.freeze (fm:=F) (jQ ad oa B B ab cp O2 dat ((b_ a0).mono fun p U=>List.mem_append.2 (.inl U)) hv.add rfl fun i hi=>(a1 i hi).trans (hO i hi))) ?_ (fm:=(J,cK k B j 1 q I g)::(C++(O++(Y++u)))) (hs:=.of_perm an)
   rintro v m ⟨m0,⟨a3,rfl⟩,hm⟩;rw[hm,a3,List.nil_append];refine go ?_;exact⟨(i+1,(J,cK k B j 1 q I g)::(C++(O++(Y++u))++F)),by dsimp only;omega,by dsimp only;omega,cF,.of_perm an⟩
  ·refine go ?_;refine ar (av.freeze (fm:=u) (lO (S.add u) (V.add u) M.lt od cd (K.mono fun p U=>List.mem_append.2 (.inl U)) aa (by rw[e1];exact fun h=>by cases h))) ?_ (fm:=(J,cK k B j 2 q I g)::C) (hs:=.of_perm an)
   rintro v m ⟨F,y,rfl⟩;rw[e1] at y;obtain⟨ad,l2,ab,rfl⟩:=y;refine go ?_;refine tT (r:=false) rfl rfl rfl rfl rfl ?_
   refine go ?_;exact⟨(i+1,(J,cK k B j 2 q I g)::(C++(F++u))),by dsimp only;omega,by dsimp only;omega,cF,.of_perm an⟩
  ·exact absurd rfl h4
 ·refine go ?_;refine ae (cf S fb am al ax) ?_ (fm:=_) (hs:=.refl _)
  rintro v m rfl;refine go ?_;exact af (bx [4] rfl)
end Go.Proofs.YtogmacnlpclgkaaGreatDoor
