/- Texts 25. -/
import Derived.Test.YtogmacnlpclgkaaGreatDoorX24
set_option linter.all false
namespace Go.Proofs.YtogmacnlpclgkaaGreatDoor
open Go Go.Eng Go.Pz
set_option maxRecDepth 20000
variable {dat:Nat->Nat} {N:Nat} {d:Nat->Nat}
structure Ik (e:CE):Prop where
 ce:rf e
 ht:e.hb≠0->x7 e.hb e.ht
theorem FY {e:CE} {n:Nat} (hd:∀i,d i<256) (h:e.hb≠0->x7 e.hb e.ht):(lits e d n).1.hb≠0->x7 (lits e d n).1.hb (lits e d n).1.ht:=by
 unfold lits
 split
 ·exact h
 split
 ·exact h
 unfold eJ
 dsimp only
 split
 ·exact h
 split
 ·exact h
 split
 ·exact h
 split
 ·split
  ·exact h
  ·rename_i g b q hq
   have:=(n9 hd hq).1
   split<;>exact fun _=>this
 ·split<;>exact h
theorem DB {e:CE} {n:Nat} (hd:∀i,d i<256) (g:Ik e):Ik (lits e d n).1:=by
 have h:=qc e d n
 exact⟨⟨by rw[h.1];exact g.ce.t0,by rw[h.2.1];exact g.ce.t1,by rw[h.2.2.1];exact g.ce.t2,by rw[h.2.2.2.1,h.2.2.2.2.1,h.2.2.2.2.2];exact g.ce.r⟩,FY hd g.ht⟩
theorem yG {e:CE} {n off:Nat} (hd:∀i,d i<256) (g:Ik e):Ik (cU e d n off).1:=by
 have h:=qV e d n off
 exact⟨(uq hd g.ce).1,by rw[h.1,h.2.1];exact g.ht⟩
structure oF (p:PS CE):Prop where
 s:∀i,p.S i<256
 l:∀i,p.L i<256
 e:Ik p.e
 w:p.wsz<=2^27
theorem BC (hd:∀i,dat i<256) {p:PS CE} {size:Nat} (g:oF p):oF (bG dat N p size).1:=by
 unfold bG
 dsimp only
 have k:∀i,dat (p.pos+i)<256:=fun i=>hd _
 have y:=DB (n:=size) k g.e
 have z:∀o K LT,(lits p.e (fun i=>dat (p.pos+i)) size).2=some (o,K,LT)->∀i,LT i<256:=fun o K LT h=>Ac k g.e.ht h
 have r:∀o K LT,(lits p.e (fun i=>dat (p.pos+i)) size).2=some (o,K,LT)->K<=131072:=fun o K LT h=>(vC h).2
 split
 ·exact⟨g.s,g.l,g.e,g.w⟩
 split
 ·exact⟨g.s,g.l,y,g.w⟩
 ·rename_i o K LT hL
  have q:=z _ _ _ hL
  have t:=r _ _ _ hL
  have j:=yG (n:=size) (off:=o) k y
  split
  ·exact⟨g.s,g.l,j,g.w⟩
  ·split
   ·split
    ·exact⟨g.s,g.l,j,g.w⟩
    ·exact⟨yF g.s q,g.l,j,g.w⟩
   ·rename_i c o2 _ _
    have u:=lK (d:=fun i=>dat (p.pos+i)) (n:=size) (off:=o2) (cnt:=c) (wl:=p.wl) j.ce g.l q g.s t
    exact⟨u.1,g.l,⟨⟨j.ce.t0,j.ce.t1,j.ce.t2,u.2.2⟩,j.ht⟩,g.w⟩
theorem FZ {L T:Nat->Nat} {n:Nat} (h:∀i,L i<256) (g:∀i,T i<256):∀i,cB L n T i<256:=fun i=>by unfold cB;split;exact h _;exact g _
theorem sR {last:Bool} {p:PS CE} (g:oF p):oF (cO dat N last p).1:=by
 unfold cO
 dsimp only
 repeat' split
 all_goals first
  | exact⟨g.s,g.l,g.e,g.w⟩
  | exact⟨g.s,fun i=>FZ g.l g.s _,g.e,g.w⟩
theorem DC (hd:∀i,dat i<256) {p:PS CE} (g:oF p):oF (cD dat N (bG dat N) p).1:=by
 unfold cD
 dsimp only
 split
 ·exact⟨g.s,g.l,g.e,g.w⟩
 split
 ·exact⟨g.s,g.l,g.e,g.w⟩
 split
 ·split
  ·exact⟨nO g.s hd _ _,g.l,g.e,g.w⟩
  ·exact sR ⟨nO g.s hd _ _,g.l,g.e,g.w⟩
 split
 ·split
  ·exact⟨g.s,g.l,g.e,g.w⟩
  ·exact sR ⟨fun i=>by dsimp only;split;exact hd _;exact g.s _,g.l,g.e,g.w⟩
 split
 ·have h:=BC (N:=N) (size:=dB dat p.pos/8) hd (p:={ p with pos:=p.pos+3 }) ⟨g.s,g.l,g.e,g.w⟩
  split
  ·exact sR h
  ·exact h
 ·exact⟨g.s,g.l,g.e,g.w⟩
theorem F3 {e:CE} (g:Ik e):Ik e.ini:=⟨rf.ini e,fun h=>absurd rfl h⟩
theorem rK {p:PS CE} (g:oF p):oF (fI dat N CE.ini p).1:=by
 unfold fI
 split
 ·exact g
 unfold d9
 cases hh:dA dat N (bF dat N N p.pos) with
 | short=>exact⟨g.s,g.l,g.e,g.w⟩
 | bad b pos=>cases b<;>exact⟨g.s,g.l,g.e,g.w⟩
 | ok sum known size win pos =>
  have:=(sq dat N hh).2.1
  exact⟨g.s,g.l,F3 g.e,by dsimp only;omega⟩
theorem ur (hd:∀i,dat i<256) {p:PS CE} (g:oF p):oF (bB dat N CE.ini (bG dat N) p).1:=by
 unfold bB
 split
 ·exact DC hd (rK g)
 ·exact rK g
theorem qe (hd:∀i,dat i<256):∀(f:Nat) {p:PS CE},oF p->oF (bh dat N CE.ini (bG dat N) f p).1
 | 0,_,h=>h
 | f+1,p,h=>by
  have g:=ur (N:=N) hd h
  rw[bh];split
  ·exact h
  split
  ·exact qe hd f ⟨g.s,g.l,g.e,g.w⟩
  ·exact g
theorem BD (hd:∀i,dat i<256) (n:Nat) {p:PS CE} (g:oF p):oF (a_ dat N CE.ini (bG dat N) n p).1:=by
 have h:=qe (N:=N) hd (N+1) g
 unfold a_
 split
 ·exact⟨h.s,h.l,h.e,h.w⟩
 ·exact h
theorem pq (hd:∀i,dat i<256):Fv dat N CE.ini (bG dat N) (fun p _=>p.wsz<=2^27/\∀i,p.L i<256) oF where
 can:=fun _ g _ _ _=>⟨(rK g).w,(rK g).l⟩
 fill:=fun _ g _=>by
  have h:=ur (N:=N) hd g
  exact⟨h.s,h.l,h.e,h.w⟩
 off:=fun _ _ g=>⟨g.s,g.l,g.e,g.w⟩
theorem mK:oF (PS.init CE.zero):=⟨fun _=>by show 0<256;omega,fun _=>by show 0<256;omega,⟨⟨fun _ h=>(by cases h),fun _ h=>(by cases h),fun _ h=>(by cases h),by decide,by decide,by decide⟩,fun h=>absurd rfl h⟩,Nat.zero_le _⟩
end Go.Proofs.YtogmacnlpclgkaaGreatDoor
namespace Go.Proofs.YtogmacnlpclgkaaGreatDoor
open Go Go.Eng Go.Pz
attribute [local irreducible] RO J av aO
set_option maxRecDepth 20000
variable {G:ao} {S:bN G} {dat:Nat->Nat} {N:Nat}
def dS (dat:Nat->Nat) (N:Nat) {E:Type} (ini:E->E) (cmp:PS E->Nat->PS E×Bool) (p:PS E):PS E×Nat×Nat :=
 if(bh dat N ini cmp (N+1) p).2=0 then
  ({ (bh dat N ini cmp (N+1) p).1 with off:=(bh dat N ini cmp (N+1) p).1.off+1 },0,(bh dat N ini cmp (N+1) p).1.S (bh dat N ini cmp (N+1) p).1.off)
 else((bh dat N ini cmp (N+1) p).1,(bh dat N ini cmp (N+1) p).2,0)
theorem yH (src:dn S dat N) (hd:∀i,dat i<256) (ad:lU src) {E:Type} (dz:E->RX->ao->Prop) (cmp:PS E->Nat->PS E×Bool) (can:PS E->Nat->Prop) (M:sj src dz cmp can) (hgo:gP N cmp)
  (ini:E->E) (J:∀e x em,dz e x em->dz (ini e) x.ini em) (U:bk) (a0:(2,U)∈G) (am:0<U.n) (a1:U.g 0 = .bool false) (hN:N<=2^62)
  (Ok:PS E->Prop) (aw:Fv dat N ini cmp can Ok) (z:Nat) (p:PS E) (m:ao) (hm:jV src dz z p m) (hp:Ok p) :
  av Tryz.prog G 42 #[bf z] m (fun v m'=>∃e,jV src dz z (dS dat N ini cmp p).1 m' /\
   v = .tuple #[.int .u8 ((dS dat N ini cmp p).2.2:Nat),e]/\so S (dS dat N ini cmp p).2.1 e):=by
 refine bE Tryz.func42 fun c h0 hex=>?_
 refine go ?_
 refine ae (zQ src hd ad dz cmp can M hgo ini J U a0 am a1 hN Ok aw z p m hm hp) ?_ (fm:=[]) (hs:=by rw[List.append_nil];exact .refl _)
 rintro v m2 ⟨l,hv,hk⟩
 rw[List.append_nil]
 unfold dS
 generalize bh dat N ini cmp (N+1) p=r at l hv hk ⊢
 rcases hv with⟨q,rfl⟩|⟨q,V⟩|⟨q,V⟩
 ·obtain⟨H,ax⟩:=hk q;simp only[q,if_true]
  obtain⟨p1,k⟩:=r;dsimp only at l q H ax ⊢;obtain⟨x,s,q0,bm,wm,em,rfl,dE,I,al,K,j,C,a2,ab,Y,hb,hw,hx,O⟩:=l;obtain⟨oa,W,B⟩:=ky.form hb;have u:=j.2.2.2.2.2.1
  obtain⟨s,rfl⟩:∃s':RS,s=(s'.wBuf (.slice oa p1.bl W)).wOff p1.off:=⟨s,by cases s;simp only at B u;rw[B,u]⟩
  rcases hb with⟨h1,h2,_⟩|⟨y,cap,F,h1,rfl,h3,h4,h5,h6,h7⟩
  ·omega
  ·cases h1;refine go ?_;refine bj (m':=(z,az x ((s.wBuf (.slice (bi y) p1.bl W)).wOff p1.off))::(y,F)::(src.mem q0++(wm++em))) (.of_perm an) ?_
   refine aF (v:=.int .u8 (p1.S p1.off:Nat)) rfl rfl (.there .here) (show 0+p1.off<F.n from aa) (by rw[Nat.zero_add,h6 _ aa];rfl) rfl ?_
   refine go ?_;refine af ?_;refine ag [2,3] (post:=(z,az x (((s.wBuf (.slice (bi y) p1.bl W)).wOff p1.off).wOff (p1.off+1)))::(src.mem q0++([(y,F)]++(wm++em)))) (junk:=[]) ⟨.nilIface,⟨x,_,q0,[(y,F)],wm,em,rfl,dE,I,al,K,⟨j.1,j.2.1,j.2.2.1,j.2.2.2.1,j.2.2.2.2.1,rfl,j.2.2.2.2.2.2⟩,C,a2,ab,Y,.inr ⟨y,_,F,rfl,rfl,h3,h4,h5,h6,h7⟩,hw,fun h=>⟨(hx h).len,(hx h).acc,(hx h).cnt,(hx h).buf,(hx h).byte⟩,O⟩,rfl,.inl ⟨rfl,rfl⟩⟩ rfl (.trans (.cons (B':=az x (((s.wBuf (.slice (bi y) p1.bl W)).wOff p1.off).wOff (p1.off+1))) dT (.refl _)) (.of_perm an))
 ·rw[ah (by rw[q];decide)]
  obtain rfl:v = .iface 183 (.pointer (some ⟨S.eb,S.eo,none⟩)):=V;refine go ?_;exact af (cE [2,3] (m2) (junk:=[]) ⟨_,l,rfl,.inr (.inl ⟨q,rfl⟩)⟩ gX)
 ·rw[ah (by rw[q];decide)]
  obtain⟨et,b',eo,rfl⟩:=jr.form V;refine go ?_;exact af (cE [2,3] (m2) (junk:=[]) ⟨_,l,rfl,.inr (.inr ⟨q,V⟩)⟩ gX)
theorem F4 (src:dn S dat N) (hd:∀i,dat i<256) (K:lU src) {E:Type} (dz:E->RX->ao->Prop) (cmp:PS E->Nat->PS E×Bool) (can:PS E->Nat->Prop) (H:sj src dz cmp can) (hgo:gP N cmp)
  (ini:E->E) (C:∀e x em,dz e x em->dz (ini e) x.ini em) (I:bk) (M:(2,I)∈G) (U:0<I.n) (O:I.g 0 = .bool false) (hN:N<=2^62)
  (Ok:PS E->Prop) (J:Fv dat N ini cmp can Ok) (F:Nat) (p:PS E) (m:ao) (hm:jV src dz F p m) (Y:Ok p) (z:Int) (W:z<0) :
  av Tryz.prog G 36 #[bf F,.int .i64 z] m (fun v m' =>
   ((dS dat N ini cmp p).2.1=0/\∃q b,jV src dz F (dS dat N ini cmp p).1 q/\m'=(b,aj [.int .u8 ((dS dat N ini cmp p).2.2:Nat)] 5)::q/\v = .agg #[.int .i64 1,.slice (bi b) 1 1,.int .i64 0]) \/
   ((dS dat N ini cmp p).2.1≠0/\jV src dz F (dS dat N ini cmp p).1 m'/\v = .agg #[.int .i64 0,.slice none 0 0,.int .i64 ((dS dat N ini cmp p).2.1:Nat)])):=by
 refine bE Tryz.func36 fun c h0 hex=>?_
 refine go ?_
 refine aC z43 rfl hex fun u V=>?_
 refine go ?_
 refine ac rfl (fun _=>?_) (fun h=>absurd W h)
 refine go ?_
 refine ae (yH src hd K dz cmp can H hgo ini C I M U O hN Ok J F p m hm Y) ?_ (fm:=[(u,_)]) (hs:=jE _ _)
 rintro v q ⟨e,j,rfl,y⟩
 generalize dS dat N ini cmp p=r at j y ⊢
 obtain⟨p2,k,w⟩:=r
 dsimp only at j y ⊢
 refine cA (jE _ _).symm (fun _ h=>bZ (jE _ _).symm h) ?_
 rcases y with⟨rfl,rfl⟩|⟨rfl,l⟩|⟨rfl,l⟩
 ·refine go ?_;refine au (z:=.int .u8 0) (vs:=[.int .u8 (w:Nat)]) rfl rfl z5 rfl rfl rfl rfl hex fun B ab=>?_
  refine go ?_;refine bU (vs:=[.int .i64 1,.slice (bi B) 1 1,.int .i64 0]) rfl rfl z43 rfl rfl rfl rfl ?_
  refine go ?_;refine ak (s:=2) (vs:=[.int .i64 1,.slice (bi B) 1 1,.int .i64 0]) rfl rfl rfl rfl (cC rfl) (.there .here) (aZ 3) rfl hex ?_
  refine go ?_;refine af ?_;exact cH [.cell 4 43] [.agg #[.int .i64 1,.slice (bi B) 1 1,.int .i64 0]] ⟨⟨u,0,2,_,rfl,rfl,rfl,List.mem_cons_of_mem _ List.mem_cons_self,aZ 3,rfl⟩,trivial⟩ (post:=(B,aj [.int .u8 (w:Nat)] 5)::q) (junk:=[(u,_)]) (.inl ⟨rfl,q,B,j,rfl,rfl⟩) rfl (.skip (jE _ _))
 ·obtain rfl:e = .iface 183 (.pointer (some ⟨S.eb,S.eo,none⟩)):=l;have y:so S 1 (.iface 183 (.pointer (some ⟨S.eb,S.eo,none⟩))):=.inr (.inl ⟨rfl,rfl⟩)
  refine go ?_;refine ae (wV S _ _ y) ?_
  rintro v m ⟨rfl,rfl⟩;refine go ?_;refine bU (vs:=[.int .i64 0,.slice none 0 0,.int .i64 ((1:Nat):Int)]) rfl rfl z43 rfl rfl rfl rfl ?_
  refine go ?_;refine ak (s:=2) (vs:=[.int .i64 0,.slice none 0 0,.int .i64 ((1:Nat):Int)]) rfl rfl rfl rfl (cC rfl) .here (aZ 3) rfl hex ?_
  refine go ?_;refine af ?_;exact cH [.cell 4 43] [.agg #[.int .i64 0,.slice none 0 0,.int .i64 ((1:Nat):Int)]] ⟨⟨u,0,2,_,rfl,rfl,rfl,List.mem_cons_self,aZ 3,rfl⟩,trivial⟩ (post:=q) (junk:=[(u,_)]) (.inr ⟨by decide,j,rfl⟩) rfl (jE _ _)
 ·obtain⟨et,b',eo,rfl⟩:=jr.form l;have y:so S 2 (.iface et (.pointer (some ⟨b',eo,none⟩))):=.inr (.inr ⟨rfl,l⟩)
  refine go ?_;refine ae (wV S _ _ y) ?_
  rintro v m ⟨rfl,rfl⟩;refine go ?_;refine bU (vs:=[.int .i64 0,.slice none 0 0,.int .i64 ((2:Nat):Int)]) rfl rfl z43 rfl rfl rfl rfl ?_
  refine go ?_;refine ak (s:=2) (vs:=[.int .i64 0,.slice none 0 0,.int .i64 ((2:Nat):Int)]) rfl rfl rfl rfl (cC rfl) .here (aZ 3) rfl hex ?_
  refine go ?_;refine af ?_;exact cH [.cell 4 43] [.agg #[.int .i64 0,.slice none 0 0,.int .i64 ((2:Nat):Int)]] ⟨⟨u,0,2,_,rfl,rfl,rfl,List.mem_cons_self,aZ 3,rfl⟩,trivial⟩ (post:=q) (junk:=[(u,_)]) (.inr ⟨by decide,j,rfl⟩) rfl (jE _ _)
theorem BF (hd:∀i,dat i<256) {p:PS CE} (g:oF p):oF (dS dat N CE.ini (bG dat N) p).1:=by
 have h:=qe (N:=N) hd (N+1) g
 unfold dS
 split
 ·exact⟨h.s,h.l,h.e,h.w⟩
 ·exact h
end Go.Proofs.YtogmacnlpclgkaaGreatDoor
namespace Go.Eng
open Go
structure fR (M:ao) (oa:Option Addr) (n cp:Nat) (x:Nat->Int):Prop where
 le:n<=cp
 is:(oa=none/\n=0/\cp=0)\/∃b o B,oa=some ⟨b,o,none⟩/\(b,B)∈M/\(0<n->o+n<=B.n)/\∀i,i<n->B.g (o+i) = .int .i64 (x i)
theorem fR.mono {M M':ao} {j:Option Addr} {n k:Nat} {x:Nat->Int} (v:fR M j n k x) (h:∀p∈M,p∈M'):fR M' j n k x:=by
 obtain⟨g,q⟩:=v
 rcases q with i|⟨b,o,B,i,l,r⟩
 ·exact⟨g,.inl i⟩
 ·exact⟨g,.inr ⟨b,o,B,i,h _ l,r⟩⟩
theorem fR.some {M:ao} {j:Option Addr} {n r:Nat} {x:Nat->Int} (v:fR M j n r x) (h:0<n):∃b o B,j = .some ⟨b,o,none⟩/\(b,B)∈M/\o+n<=B.n/\∀i,i<n->B.g (o+i) = .int .i64 (x i):=by
 rcases v.is with⟨_,k,_⟩|⟨b,o,B,k,l,p,q⟩
 ·omega
 ·exact⟨b,o,B,k,l,p h,q⟩
end Go.Eng
namespace Go.Proofs.YtogmacnlpclgkaaGreatDoor
open Go Go.Eng Go.Pz
attribute [local irreducible] RO J av aO
set_option maxRecDepth 20000
variable {G:ao} {S:bN G} {dat:Nat->Nat} {N:Nat}
def vE (z:Int):Nat:=if z<0 then 1 else z.toNat
def im (dat:Nat->Nat) (N:Nat) (p:PS CE) (z:Int):PS CE×Nat×Nat×(Nat->Nat) :=
 if z<0 then((dS dat N CE.ini (bG dat N) p).1,(if(dS dat N CE.ini (bG dat N) p).2.1=0 then 1 else 0),(dS dat N CE.ini (bG dat N) p).2.1,fun _=>(dS dat N CE.ini (bG dat N) p).2.2)
 else((a_ dat N CE.ini (bG dat N) z.toNat p).1,(a_ dat N CE.ini (bG dat N) z.toNat p).2.1,(a_ dat N CE.ini (bG dat N) z.toNat p).2.2,iX dat N CE.ini (bG dat N) p)
def cZ (dat:Nat->Nat) (N:Nat) (p:PS CE) (z:Nat->Int):Nat->PS CE
 | 0=>p
 | i+1=>(im dat N (cZ dat N p z i) (z i)).1
theorem F5 {E:Type} {ini:E->E} (p:PS E):(fI dat N ini p).2<=2:=by
 unfold fI
 split
 ·exact Nat.zero_le _
 unfold d9
 split
 ·dsimp only;split<;>omega
 ·exact aZ _
 ·exact aZ _
 ·exact Nat.zero_le _
theorem BG {E:Type} {ini:E->E} {cmp:PS E->Nat->PS E×Bool} (p:PS E):(bB dat N ini cmp p).2<=2:=by
 unfold bB
 split
 ·dsimp only;split<;>omega
 ·exact F5 p
theorem qf {E:Type} {ini:E->E} {cmp:PS E->Nat->PS E×Bool}:∀(f:Nat) (p:PS E),(bh dat N ini cmp f p).2<=2
 | 0,_=>aZ _
 | f+1,p=>by
  rw[bh];split
  ·exact Nat.zero_le _
  split
  ·exact qf f _
  ·exact BG p
theorem Il (hd:∀i,dat i<256) {p:PS CE} (g:oF p) (z:Int):oF (im dat N p z).1:=by
 unfold im
 split
 ·exact BF hd g
 ·exact BD hd _ g
theorem G7 (p:PS CE) (z:Int):(im dat N p z).2.1<=vE z:=by
 unfold im vE
 split
 ·dsimp only;split<;>omega
 ·unfold a_;split
  ·exact Nat.min_le_left _ _
  ·exact Nat.zero_le _
theorem DD (p:PS CE) (z:Int):(im dat N p z).2.2.1<=2:=by
 unfold im
 split
 ·unfold dS;split
  ·exact Nat.zero_le _
  ·exact qf _ _
 ·unfold a_;split
  ·exact Nat.zero_le _
  ·exact qf _ _
structure jW (G:ao):Prop where
 b0:ij G 4 fA
 b2:ij G 5 fB
 fz:∃fb:bk,(2,fb)∈G/\0<fb.n/\fb.g 0 = .bool false
theorem Ad (V:jW G) (src:dn S dat N) (hd:∀i,dat i<256) (j:lU src) (u:N<=2^62) (q:Nat) (p:PS CE) (m:ao) (F:jV src jd q p m) (y:oF p) (z:Int) (M:z<=2^40) :
  av Tryz.prog G 36 #[bf q,.int .i64 z] m (fun v m'=>∃h bl H I,jV src jd q (im dat N p z).1 h/\m'=bl++h /\
   v = .agg #[.int .i64 ((im dat N p z).2.1:Nat),.slice H (im dat N p z).2.1 I,.int .i64 ((im dat N p z).2.2.1:Nat)]/\aU bl H (im dat N p z).2.1 I (im dat N p z).2.2.2):=by
 obtain⟨C,k,r,l⟩:=V.fz
 unfold im
 by_cases h0:z<0
 ·rw[ai h0];refine(F4 src hd j jd (bG dat N) _ (xu src hd V.b0 V.b2 u) (fh dat N) CE.ini mJ C k r l u oF (pq hd) q p m F y z h0).mono ?_
  dsimp only;rintro v m' (⟨g,h,b,t,rfl,rfl⟩|⟨g,t,rfl⟩)
  ·refine⟨h,[(b,_)],some ⟨b,0,none⟩,1,t,rfl,?_,⟨?_,.inr ⟨b,0,_,rfl,List.mem_singleton.2 rfl,fun _=>?_,fun i hi=>?_⟩⟩⟩
   ·rw[ai g,g];rfl
   ·rw[ai g];exact aZ _
   ·rw[ai g];exact aZ _
   ·rw[ai g] at hi;obtain rfl:i=0:=aa
    rfl
  ·refine⟨m',[],none,0,t,rfl,?_,⟨?_,.inl ⟨rfl,?_,rfl⟩⟩⟩
   ·rw[ah g];rfl
   ·rw[ah g];exact aZ _
   ·rw[ah g]
 ·rw[ah h0];obtain⟨n,rfl⟩:∃n:Nat,z=(n:Nat):=⟨z.toNat,aa⟩
  rw[Int.toNat_natCast];refine(De src hd j jd (bG dat N) _ (xu src hd V.b0 V.b2 u) (fh dat N) CE.ini mJ C k r l u oF (pq hd) q p m F y n aa).mono ?_
  dsimp only;rintro v m' ⟨h,b,B,g,rfl,rfl,t,O,J,K,-⟩;exact⟨h,[(b,B)],some ⟨b,0,none⟩,n,g,rfl,rfl,J,.inr ⟨b,0,B,rfl,List.mem_singleton.2 rfl,fun _=>aa,fun i hi=>by rw[Nat.zero_add];exact K i hi⟩⟩
end Go.Proofs.YtogmacnlpclgkaaGreatDoor
namespace Go.Proofs.YtogmacnlpclgkaaGreatDoor
open Go Go.Eng Go.ChangeShapes Go.WideShapes Go.RowKit
set_option maxRecDepth 100000
def Ju:DataW Unit->Int
 | .lit (.int _ n)=>n
 | _=>0
theorem BH {k:IntKind} (l:List Int):(Go.ChangeShapes.lits (H:=Unit) k l).map Ju=l:=by
 unfold Go.ChangeShapes.lits
 rw[List.map_map]
 exact(List.map_congr_left fun a _=>rfl).trans (List.map_id l)
theorem Ae {W:World} {n:String} {gid:Nat} {l:List (Nat×Nat)} {L R:List (DataW Unit)} (h:laidMet Tryz.prog [(n,.slice L R)] W) (hg:Tryz.prog.globalNamed n=some gid)
  (ht:(Tryz.prog.globals[gid]?).map (·.type)=some 233) (I:L.map Ju=l.map fun p=>((p.1+p.2*16777216:Nat):Int)) (B:0<l.length):ij (iv W.heap) gid l:=by
 obtain⟨ps,⟨g0,t0,J,f0,p0,q0,V,Y,K,ab,al,e0⟩,aw,M⟩:=h
 obtain rfl:=Option.some.inj (hg.symm.trans V)
 obtain rfl:=Option.some.inj (ht.symm.trans Y)
 rcases open_ints (eR (P:=Tryz.prog) (T:=233) (e:=64) rfl) (ef (P:=Tryz.prog) (T:=64) (k:=.u32) rfl) (by kernel_rfl) ab with⟨_,hx⟩|⟨a,len,cap,zs,U,_,a0,_,hlen,hx,hc,_⟩
 ·cases hx
 simp only[if_true] at hlen
 have ad:L=Go.ChangeShapes.lits .u32 (zs.take len):=by injection (Prod.mk.inj hx).1
 rw[ad,BH] at I
 have O:len=l.length:=by
  have:=congrArg List.length I
  rw[List.length_take,List.length_map] at this;omega
 have hz:∀i,i<l.length->zs.getD i 0=(((l.getD i (0,0)).1+(l.getD i (0,0)).2*16777216:Nat):Int):=fun i hi=>by
  have j:(zs.take len)[i]? = zs[i]? := by rw[List.getElem?_take,ai aa]
  rw[I,List.getElem?_map,List.getElem?_eq_getElem hi] at j;rw[List.getD_eq_getElem?_getD,<- j,List.getD_eq_getElem?_getD,List.getElem?_eq_getElem hi]
  rfl
 have g:a.spot=none:=by
  have j:=hc 0 aa
  unfold World.cell? at j
  split at j
  ·cases g:(a.add 0).spot with
   | none=>exact g
   | some k=>rw[g] at j;simp at j
  ·cases j
 obtain⟨b,o,sp⟩:=a
 subst g
 have r:∀i,i<l.length->W.cell? ⟨b,o+i,none⟩=some (.int .u32 (zs.getD i 0)):=fun i hi=>by
  have:=hc i aa
  rwa[eU] at this
 obtain⟨cs,T,fr,hb,_,_⟩:=gN (r 0 B)
 have q:∀i,i<l.length->o+i<cs.size/\cs.getD (o+i) undef = .int .u32 (zs.getD i 0):=fun i hi=>by
  obtain⟨am,T',ax,u,z,hv⟩:=gN (r i hi)
  rw[hb] at u;cases u;exact⟨z,hv⟩
 obtain⟨c0⟩:=J
 have y:c0=[.slice (some ⟨b,o,none⟩) len cap]:=U
 subst y
 obtain⟨B1,F,H,C⟩:=uY hg K
 refine⟨B1,b,o,cap,_,F,H,by rw[C,O],kH hb,?_,fun i hi=>?_⟩
 ·have:=(q (l.length-1) aa).1
  show o+l.length<=cs.size
  omega
 ·exact(q i hi).2.trans (by rw[hz i hi])
theorem Im:Tryz.prog.globalNamed "framesunpacked/pub/zstd.literalLengthBase" = some 4:=by kernel_rfl
theorem Ip:Tryz.prog.globalNamed "framesunpacked/pub/zstd.matchLengthBase" = some 5:=by kernel_rfl
theorem Iq:(Tryz.prog.globals[4]?).map (·.type)=some 233:=by kernel_rfl
theorem Ir:(Tryz.prog.globals[5]?).map (·.type)=some 233:=by kernel_rfl
def Af (x:String×DataW Unit):Bool:=x.1 == "framesunpacked/pub/zstd.literalLengthBase"
def Ag (x:String×DataW Unit):Bool:=x.1 == "framesunpacked/pub/zstd.matchLengthBase"
theorem BI:ew.filter Af=[("framesunpacked/pub/zstd.literalLengthBase",Rows.laid_framesunpacked_pub_zstd_literalLengthBase)]:=by kernel_rfl
theorem BJ:ew.filter Ag=[("framesunpacked/pub/zstd.matchLengthBase",Rows.laid_framesunpacked_pub_zstd_matchLengthBase)]:=by kernel_rfl
theorem eT {W:World} (h:laidMet Tryz.prog ew W):jW (iv W.heap):=by
 have h0:=h.filter Af
 rw[BI] at h0
 have k:=h.filter Ag
 rw[BJ] at k
 obtain⟨_,l,g,j,i⟩:=eA (eC h)
 exact⟨Ae h0 Im Iq (by kernel_rfl) (by decide),Ae k Ip Ir (by kernel_rfl) (by decide),l,g,j,i⟩
theorem gD {H:Type} {enc:TypeId×Value->H} {P:Program} {w:World} {base:Nat} {t e:TypeId} {v:Value} {d:DataW H} {F:List MemPlace} (ht:P.underlying t=some (.slice e)) (M:P.underlying e=some (.int .i64)) (U:P.cellsOf e=1)
  (k:Value.okWide P w .any base t v) (h:DataW.Trod enc P w 0 (fun _=>true) true t v d F):∃B n y x,v = .slice B n y/\fR (iv w.heap) B n y x/\y<=maxLen:=by
 obtain⟨fuel,h⟩:=h
 rcases qL ht k with rfl|⟨b,o,len,cap,row,c,rfl,r⟩
 ·exact⟨none,0,0,fun _=>0,rfl,⟨aZ _,.inl ⟨rfl,rfl,rfl⟩⟩,Nat.zero_le _⟩
 ·rcases open_ints ht M U h with⟨l,_⟩|⟨a,A,z,zs,l,_,C,K,I,_,J,V⟩
  ·simp[Value.cells] at l
  ·simp only[Value.cells,List.cons.injEq,Value.slice.injEq,Option.some.injEq,and_true] at l
   obtain⟨rfl,rfl,rfl⟩:=l;simp only[if_true] at I
   have j:∀i,i<cap->w.cell? ⟨b,o+i,none⟩=some (.int .i64 (zs.getD i 0)):=fun i hi=>by
    have:=J i aa
    rwa[eU] at this
   obtain⟨cs,T,fr,hb⟩:∃cs T fr,w.heap[b]? = some (.cells cs T fr):=by
    unfold World.shape? at r
    split at r
    ·rename_i cs T fr hb;exact⟨cs,T,fr,hb⟩
    ·cases r
   refine⟨_,len,cap,fun i=>zs.getD i 0,rfl,⟨C,.inr ⟨b,o,_,rfl,kH hb,fun h0=>?_,fun i hi=>?_⟩⟩,K⟩
   ·obtain⟨q,T',u,g,p,_⟩:=gN (j (len-1) aa)
    rw[hb] at g;cases g;show o+len<=cs.size
    omega
   ·obtain⟨q,T',u,g,p,O⟩:=gN (j i aa)
    rw[hb] at g;cases g;exact O
end Go.Proofs.YtogmacnlpclgkaaGreatDoor
namespace Go.Proofs.YtogmacnlpclgkaaGreatDoor
open Go Go.Eng
attribute [local irreducible] RO J av aO
set_option maxRecDepth 20000
variable {G:ao}
theorem yI {M sm:ao} {s len:Nat} {v:Value} {cl:Nat->Value} (h:dH s v len cl sm) (l:∀p∈sm,p∈M):∃src,k_ M s v len src/\∀i,i<len*s->src i=cl i:=by
 rcases h with⟨rfl,rfl,rfl⟩|⟨b,o,cap,B,rfl,rfl,hf,q,k,hg⟩
 ·exact⟨fun _=>undef,.inr ⟨rfl,none,0,rfl⟩,fun i hi=>absurd hi (by simp)⟩
 ·exact⟨fun j=>B.g (o+j),.inl ⟨b,o,cap,B,rfl,l _ List.mem_cons_self,by have:=Nat.mul_le_mul_right s k;omega,rfl⟩,hg⟩
theorem b_ {sm:ao} {k:Option Addr} {len l:Nat} {z:Nat->Nat} (h:dH 1 (.slice k len l) len (dw z) sm):aU sm k len l z:=by
 rcases h with⟨j,rfl,rfl⟩|⟨b,o,cap,B,j,rfl,hf,p,g,hg⟩
 ·cases j;exact⟨aZ _,.inl ⟨rfl,rfl,rfl⟩⟩
 ·cases j;exact⟨g,.inr ⟨b,o,B,rfl,List.mem_cons_self,fun _=>aa,fun i hi=>hg i aa⟩⟩
def bN.add (fm:ao) (S:bN G):bN (fm++G) where
 eb:=S.eb
 eo:=S.eo
 ub:=S.ub
 uo:=S.uo
 E0:=S.E0
 E1:=S.E1
 U0:=S.U0
 U1:=S.U1
 e0:=List.mem_append.2 (.inr S.e0)
 e0n:=S.e0n
 e0g:=S.e0g
 e1:=List.mem_append.2 (.inr S.e1)
 e1f:=S.e1f
 u0:=List.mem_append.2 (.inr S.u0)
 u0n:=S.u0n
 u0g:=S.u0g
 u1:=List.mem_append.2 (.inr S.u1)
 u1f:=S.u1f
 ne:=S.ne
def xw (n:Nat):Nat->Nat
 | 0=>n
 | i+1=>xw n i/256
def iZ (n:Nat):Nat->Nat:=fun i=>xw n i%256
theorem DE (n:Nat):iZ n 0=n%256:=rfl
theorem DF (n:Nat):iZ n 1=n/256%256:=rfl
theorem DG (n:Nat):iZ n 2=n/65536%256:=by show n/256/256%256=_;rw[Nat.div_div_eq_div_mul]
theorem Is (n:Nat):iZ n 3=n/16777216%256:=by show n/256/256/256%256=_;rw[Nat.div_div_eq_div_mul,Nat.div_div_eq_div_mul]
structure Ka where
 i:Nat
 oa:Option Addr
 cp:Nat
 om:ao
 j:ao
theorem mL (n k:Nat) (U:k<=2^20):av Tryz.prog G 29 #[.int .u64 (n:Nat),ay k] [] (fun v m=>∃q r,v = .slice q k r/\dH 1 (.slice q k r) k (dw (iZ n)) m):=by
 refine bE Tryz.func29 fun c h0 hex=>?_
 refine go ?_
 refine aH (σ:=Ka) [] (fun t=>[(0,.int .u64 ((xw n t.i:Nat):Int)),(5,.slice t.oa t.i t.cp),(6,ay k),(7,ay t.i)]) (fun t=>t.om++t.j)
  (fun t=>t.i<=k/\dH 1 (.slice t.oa t.i t.cp) t.i (dw (iZ n)) t.om) (fun t=>k-t.i) ⟨0,none,0,[],[]⟩ (.refl _) ⟨Nat.zero_le _,.inl ⟨rfl,rfl,rfl⟩⟩ ?_
 rintro⟨i,q,r,C,j⟩ f ⟨hi,l⟩
 dsimp only at hi l ⊢
 refine go ?_
 refine ac rfl (fun J=>?_) (fun I=>?_)
 ·refine go ?_;refine au (z:=.int .u8 0) (vs:=[.int .u8 ((xw n i%256:Nat):Int)]) rfl rfl z5 rfl rfl rfl rfl hex fun sb M=>?_
  refine go ?_;refine bg (s:=0) (src:=fun x=>(aj [.int .u8 ((xw n i%256:Nat):Int)] 5).g (0+x)) (k:=1) (len:=i) (v:=.slice q i r) (cl:=dw (iZ n)) (sm:=C) (fm:=(sb,aj [.int .u8 ((xw n i%256:Nat):Int)] 5)::j) rfl rfl rfl rfl z5 (by decide) rfl rfl l
   (pA [(sb,aj [.int .u8 ((xw n i%256:Nat):Int)] 5)] C j) (k_.of (B:=aj [.int .u8 ((xw n i%256:Nat):Int)] 5) (by simp) (by show 0+1*(0+1)<=1;decide)) (fun x hx=>by rw[show x=0 from by have h:x<1:=hx;omega];rfl) aa hex rfl ?_
  intro O F p H;obtain⟨u,y,rfl⟩:=bV p;refine go ?_;refine⟨⟨i+1,u,y,F,(sb,_)::j⟩,by dsimp only;omega,⟨by dsimp only;omega,bR p fun x hx=>?_⟩,cF,.of_perm List.perm_append_comm⟩
  have hx:x<(i+1)*(0+1):=hx
  by_cases K:x<i
  ·rw[ai aa]
  ·obtain rfl:x=i:=aa;rw[ah aa,show x-x*(0+1)=0 from aa];rfl
 ·obtain rfl:i=k:=aa;refine go ?_;exact af (ii [4] (C) ⟨q,r,rfl,l⟩)
theorem Kx (x:Nat×bk) (m:ao):(x::m).Perm (m++[x]):=List.perm_append_comm (l₁:=[x]) (l₂:=m)
theorem Jv (L:Nat):L*2^3|||1=8*L+1:=by
 have:=Nat.shiftLeft_add_eq_or_of_lt (show 1<2^3 by decide) L
 rw[Nat.shiftLeft_eq] at this
 omega
theorem pt {l:List Nat} (h:∀v∈l,v<256) (i:Nat):l.getD i 0<256:=by
 rw[List.getD_eq_getElem?_getD]
 cases hi:l[i]? with
 | none=>show 0<256;omega
 | some v=>exact h v (List.mem_of_getElem? hi)
def gY (len:Nat) (a b:Nat->Nat):Nat->Nat:=fun i=>if i<len then a i else b (i-len)
theorem yJ {len k:Nat} {a b:Nat->Nat} {src:Nat->Value} (hs:∀i,i<k->src i=dw b i):∀i,i<(len+k)*(0+1)->(if i<len*(0+1) then dw a i else src (i-len*(0+1)))=dw (gY len a b) i:=by
 intro i hi
 unfold gY
 by_cases h:i<len
 ·rw[ai aa];show _=Value.int .u8 ((if i<len then a i else b (i-len):Nat):Int);rw[ai h];rfl
 ·rw[ah aa,show i-len*(0+1)=i-len from aa,hs _ aa];show _=Value.int .u8 ((if i<len then a i else b (i-len):Nat):Int);rw[ah h];rfl
theorem lL {len:Nat} {a b:Nat->Nat} {i:Nat} (h:i<len):gY len a b i=a i:=ai h
theorem rL {len:Nat} {a b:Nat->Nat} {i:Nat} (h:¬i<len):gY len a b i=b (i-len):=ah h
theorem jQ (q g:Option Addr) (n l t h:Nat) (z z2:Nat->Nat) (y:aU G q n t z) (k:aU G g l h z2) (u:n=l) (B:∀i,i<n->z i=z2 i) :
  av Tryz.prog G 20 #[.slice q n t,.slice g l h] [] (fun v m=>m=[]/\v = .bool true):=by
 subst u
 refine bE Tryz.func20 fun c h0 hex=>?_
 refine go ?_
 refine pO (z:=z) (y.mono fun p j=>j) rfl rfl rfl rfl (by decide) rfl ?_
 refine go ?_
 refine pO (z:=z2) (k.mono fun p j=>j) rfl rfl rfl rfl (by decide) rfl ?_
 refine go ?_
 refine wI (r:=true) rfl rfl rfl (by rw[qJ B];exact beq_self_eq_true _) rfl ?_
 refine go ?_
 exact af (ag [4] ⟨rfl,rfl⟩)
theorem Ah (x:Int) (n:Nat) (p:0<n) (l:n<2^62):av Tryz.prog G 18 #[.int .i64 x,ay n] [] (fun v m=>m=[]/\∃y:Nat,y<n/\v=ay y):=by
 refine bE Tryz.func18 fun c h0 hex=>?_
 have k:x.tmod n<n:=Int.tmod_lt_of_pos x aa
 have j : -(n:Int)<x.tmod n:=Int.lt_tmod_of_pos x aa
 refine go ?_
 refine uN rfl rfl aa rfl ?_
 generalize x.tmod n=r at k j
 refine go ?_
 refine bp (σ:=Nat) [] (fun y=>[(0,ay y)]) (fun _=>[]) (fun y=>y<n) ?_ ?_
 ·refine ac rfl (fun h=>?_) (fun g=>?_)
  ·refine go ?_;exact⟨(r+n).toNat,aa,⟨by show Value.int _ _=Value.int _ _;congr 1;omega,trivial⟩,.refl _⟩
  ·refine go ?_;exact⟨r.toNat,aa,⟨by show Value.int _ _=Value.int _ _;congr 1;omega,trivial⟩,.refl _⟩
 intro y f i
 refine go ?_
 exact af (ag [4] ⟨rfl,y,i,rfl⟩)
theorem cf (S:bN G) (k:bk) (q:(2,k)∈G) (y:0<k.n) (u:k.g 0 = .bool false):av Tryz.prog G 15 #[] [] (fun v _=>v = .bool true):=by
 refine bE Tryz.func15 fun c h0 hex=>?_
 refine go ?_
 refine au (z:=.int .u8 0) (vs:=[.int .u8 40,.int .u8 181,.int .u8 47,.int .u8 253,.int .u8 32,.int .u8 2,.int .u8 17,.int .u8 0,.int .u8 0,.int .u8 104,.int .u8 105]) rfl rfl z5 rfl rfl rfl rfl hex fun b hb=>?_
 refine go ?_
 have H:aU ([(b,aj [.int .u8 40,.int .u8 181,.int .u8 47,.int .u8 253,.int .u8 32,.int .u8 2,.int .u8 17,.int .u8 0,.int .u8 0,.int .u8 104,.int .u8 105] 5)]++G) (bi b) 11 11 G3 :=
  ⟨aZ _,.inr ⟨b,0,_,rfl,by simp;exact .inl rfl,fun _=>by show 0+11<=11;omega,fun i hi=>by
   rw[Nat.zero_add]
   match i,hi with
   | 0,_=>rfl
   | 1,_=>rfl
   | 2,_=>rfl
   | 3,_=>rfl
   | 4,_=>rfl
   | 5,_=>rfl
   | 6,_=>rfl
   | 7,_=>rfl
   | 8,_=>rfl
   | 9,_=>rfl
   | 10,_=>rfl⟩⟩
 refine ae (av.freeze (Bm (S.add _) (fun i=>pt (by decide) i) _ _ H k (List.mem_append.2 (.inr q)) y u (Fx fun _ _=>rfl) aa)) ?_ (fm:=[]) (hs:=.refl _)
 rintro v m' ⟨J,⟨out,l,D,rfl,j,hg⟩,rfl⟩
 obtain⟨rfl,F⟩:=hg ⟨rfl,fun h=>absurd h (by decide)⟩
 obtain⟨I,K,rfl⟩:=bV j
 have B:=b_ j
 rw[show decide (2=2/\(false=true->0=gw (fun i=>[104,105].getD i 0) 2%4294967296))=true by simp]
 refine go ?_
 refine pO (z:=D) (B.mono fun p C=>by simp[C]) rfl rfl rfl rfl (by decide) rfl ?_
 refine go ?_
 refine wI (r:=true) rfl rfl rfl ?_ rfl ?_
 ·rw[qJ F];exact beq_self_eq_true _
 refine go ?_
 exact af (bx [0] rfl)
def rg (z:Nat->Nat):Nat->Nat
 | 0=>0
 | n+1=>rg z n+z n*2^(8*n)
theorem vF {z:Nat->Nat} (g:∀i,z i<256):∀n,rg z n<2^(8*n)
 | 0=>by simp[rg]
 | n+1=>by
  have j:=vF g n
  have k:z n*2^(8*n)<=255*2^(8*n):=Nat.mul_le_mul_right _ (by have:=g n;omega)
  have h:2^(8*(n+1))=256*2^(8*n):=by rw[show 8*(n+1)=8*n+8 from aa,Nat.pow_add];omega
  rw[rg,h];omega
theorem yk {a b j:Nat} (h:a<2^j):a|||(b*2^j)=a+b*2^j:=by
 have:=Nat.shiftLeft_add_eq_or_of_lt h b
 rw[Nat.shiftLeft_eq] at this
 rw[Nat.or_comm,<- this];omega
theorem It (z:Nat->Nat):rg z 4=eX z:=by
 simp only[rg,Nat.reduceMul,Nat.reducePow,Nat.mul_zero,Nat.pow_zero,Nat.mul_one,Nat.zero_add]
 rfl
theorem DH (z:Nat->Nat):rg z 8=l7 z:=by
 simp only[rg,Nat.reduceMul,Nat.reducePow,Nat.mul_zero,Nat.pow_zero,Nat.mul_one,Nat.zero_add]
 unfold l7 eX
 simp only[Nat.zero_add,Nat.reduceAdd]
 omega
theorem yK {m:ao} {g:Option Addr} {n h:Nat} {z:Nat->Nat} (r:aU (m++G) g n h z) (j:∀i,z i<256) (y:n<=8):aO Tryz.prog G 48 #[.slice g n h] m (.int .u64 (rg z n:Nat)):=by
 refine l8 Tryz.func48 fun c h0=>?_
 refine go ?_
 refine aH (σ:=Nat) [] (fun i=>[(3,.int .u64 (rg z i:Nat)),(6,.slice g n h),(7,ay n),(8,ay i)]) (fun _=>[]) (fun i=>i<=n) (fun i=>n-i) 0 (.refl _) (Nat.zero_le _) ?_
 intro i f hi
 refine go ?_
 refine ac rfl (fun l=>?_) (fun k=>?_)
 ·have p:i<n:=aa
  obtain⟨b,o,rfl⟩:=r.some aa;have hb:=j i
  have t:=vF j i
  have q:=vF j (i+1)
  rw[rg] at q;have u:2^(8*(i+1))<=2^64:=Nat.pow_le_pow_right aa aa
  refine go ?_;refine nZ (rg z i) (z i*2^(8*i)) rfl rfl (by show _<2^64;omega) (by show _<2^64;omega) rfl ?_
  rw[yk t];refine go ?_;exact⟨i+1,aa,aa,cF,.refl _⟩
 ·obtain rfl:i=n:=aa;refine go ?_;refine af ?_;exact cL [2] rfl (post:=[]) (junk:=[]) (.refl _) rfl
theorem vG {m:ao} {V:Int} (v:Nat) {n:Nat} (g:V=(v:Int)):aO Tryz.prog G 47 #[.int .u64 V,.int .u64 n] m (.int .u64 (jG v n)):=by
 subst g
 refine l8 Tryz.func47 fun c h0=>?_
 refine go ?_
 refine dZ rfl rfl rfl pQ rfl rfl ?_
 rw[bK]
 refine go ?_
 refine eM rfl rfl rfl rfl rfl rfl ?_
 rw[bK]
 refine go ?_
 refine aA (jh (K:=31) 31 rfl (en _) (by decide)) ?_
 refine go ?_
 refine dZ rfl rfl rfl kz rfl rfl ?_
 rw[bK]
 refine go ?_
 refine af ?_
 exact cL [4] rfl (post:=[]) (junk:=[]) (.refl _) rfl
theorem DI:Cr<dR:=by rw[jb];unfold Cr;decide
def Iu (V:Nat->Nat) (h:Nat):Nat->Nat
 | 0=>h
 | i+1=>yq (Iu V h i) (V i)
theorem DJ (V:Nat->Nat) {h:Nat} (g:h<dR):∀i,Iu V h i<dR
 | 0=>g
 | _+1=>rF _ _
theorem F6 (T:Nat->Nat) (n i:Nat) (hi:i<4):fv T n i<dR:=by
 cases n with
 | zero=>rw[jb];match i,hi with
  | 0,_=>show 6983438078262162902<_;decide
  | 1,_=>show 14029467366897019727<_;decide
  | 2,_=>show 0<_;decide
  | 3,_=>show 7046029288634856825<_;decide
 | succ n=>rw[pR];exact ki _ _
theorem F7 (T:TypeId):((⟨4,cQ (ct [.int .u64 0,.int .u64 0,.int .u64 0,.int .u64 0]) 0 (3+1) (ct [.int .u64 11400714785074694791,.int .u64 14029467366897019727,.int .u64 0,.int .u64 7046029288634856825]),T,(0,0)⟩:bk).st (0+0) (.int .u64 6983438078262162902)).obj=(bn .u64 4 HJ T).obj:=by
 show(⟨4,gK (cQ (ct [.int .u64 0,.int .u64 0,.int .u64 0,.int .u64 0]) 0 (3+1) (ct [.int .u64 11400714785074694791,.int .u64 14029467366897019727,.int .u64 0,.int .u64 7046029288634856825])) 0 (.int .u64 6983438078262162902),T,(0,0)⟩:bk).obj=(bn .u64 4 HJ T).obj
 refine c9 fun i hi=>?_
 match i,hi with
 | 0,_=>rfl
 | 1,_=>rfl
 | 2,_=>rfl
 | 3,_=>rfl
def ji (T:Nat->Nat) (n i:Nat):Nat->Nat:=fun j=>if j<i then fv T (n+1) j else fv T n j
theorem F8 (T:Nat->Nat) (n:Nat) (t:TypeId):(bn .u64 4 (fv T n) t).obj=(bn .u64 4 (ji T n 0) t).obj:=c9 fun i _=>by
 show Value.int .u64 ((fv T n i:Nat):Int)=Value.int .u64 ((ji T n 0 i:Nat):Int)
 unfold ji;rw[ah aa]
theorem F9 (T:Nat->Nat) (n:Nat) (t:TypeId):(bn .u64 4 (ji T n 4) t).obj=(bn .u64 4 (fv T (n+1)) t).obj:=c9 fun i hi=>by
 have hi:i<4:=hi
 show Value.int .u64 ((ji T n 4 i:Nat):Int)=Value.int .u64 ((fv T (n+1) i:Nat):Int)
 unfold ji;rw[ai hi]
theorem DK (T:Nat->Nat) (n i:Nat):ji T n i i=fv T n i:=ah (Nat.lt_irrefl _)
theorem DL (T:Nat->Nat) (n i o:Nat) (k:o=i) (t:TypeId):(bn .u64 4 (cV (ji T n i) o (jG (fv T n i) (l7 fun j=>T (32*n+(8*i+j))))) t).obj=(bn .u64 4 (ji T n (i+1)) t).obj:=c9 fun j _=>by
 subst k
 show Value.int .u64 ((cV (ji T n o) o _ j:Nat):Int)=Value.int .u64 ((ji T n (o+1) j:Nat):Int)
 by_cases h:j=o
 ·subst h;rw[bL];unfold ji;rw[ai aa];rfl
 ·rw[bz _ _ _ _ h];unfold ji;by_cases g:j<o
  ·rw[ai g,ai aa]
  ·rw[ah g,ah aa]
theorem DM (V:Nat->Nat) (i:Nat) (hi:i<4):([.int .u64 (V 0:Nat),.int .u64 (V 1:Nat),.int .u64 (V 2:Nat),.int .u64 (V 3:Nat)]:List Value)[i]? = some (.int .u64 ((V i:Nat):Int)):=by
 match i,hi with
 | 0,_=>rfl
 | 1,_=>rfl
 | 2,_=>rfl
 | 3,_=>rfl
theorem F_ (oa:Option Addr) (L cp:Nat) (tx:Nat->Nat) (hx:∀i,tx i<256) (hv:aU G oa L cp tx) (hL:L<=2^31) :
  av Tryz.prog G 41 #[.slice oa L cp] [] (fun v _=>v = .int .u64 (gw tx L:Nat)):=by
 refine bE Tryz.func41 fun c h0 hex=>?_
 have B:=hv.le
 have bm:L%dR=L:=Nat.mod_eq_of_lt (by rw[jb];omega)
 have ax:=Nat.div_add_mod L 32
 refine go ?_
 refine bp (σ:=Nat×(Option Addr×Nat)×ao) [] (fun t=>[(0,.slice t.2.1.1 (L%32) t.2.1.2),(3,.int .u64 (L:Nat)),(4,.int .u64 (t.1:Nat))]) (fun t=>t.2.2)
  (fun t=>(t.1+L)%dR=iW (fv tx (L/32)) L/\t.1<dR/\aU G t.2.1.1 (L%32) t.2.1.2 (fun i=>tx (32*(L/32)+i))) ?_ ?_
 ·refine ac rfl (fun bd=>?_) (fun ba=>?_)
  ·refine go ?_;refine dq (op:=.sub) (v:=.int .u64 7046029288634856825) rfl rfl rfl rfl ?_
   refine gc (vs:=[.int .u64 11400714785074694791,.int .u64 14029467366897019727,.int .u64 0,.int .u64 7046029288634856825]) rfl rfl z83 rfl rfl rfl rfl ?_
   refine aC z83 rfl hex fun W bt=>?_
   refine ak (s:=3) (vs:=[.int .u64 11400714785074694791,.int .u64 14029467366897019727,.int .u64 0,.int .u64 7046029288634856825]) rfl rfl rfl rfl (cC rfl) .here (aZ 4) rfl hex ?_
   refine go ?_;refine dq (op:=.add) (v:=.int .u64 6983438078262162902) rfl rfl rfl rfl ?_
   refine rA (i:=0) rfl rfl rfl rfl rfl (by decide) rfl ?_
   refine bD rfl rfl rfl rfl .here (by show 0<4;decide) rfl hex ?_
   refine go ?_;refine aH (σ:=Nat×(Option Addr×Nat)) [] (fun t=>[(0,.slice t.2.1 (L-32*t.1) t.2.2),(3,.int .u64 (L:Nat)),(6,bf W)]) (fun t=>[(W,bn .u64 4 (fv tx t.1) 83)])
    (fun t=>32*t.1<=L/\aU G t.2.1 (L-32*t.1) t.2.2 (fun i=>tx (32*t.1+i))) (fun t=>L-32*t.1) (0,(oa,cp)) (.cons (F7 _) .nil) ⟨Nat.zero_le _,hv.congr fun i hi=>by rw[Nat.mul_zero,Nat.zero_add]⟩ ?_
   rintro⟨n,⟨p,k⟩⟩ f ⟨hn,g⟩;dsimp only at hn g ⊢;have a1:=g.le
   refine go ?_;refine ac rfl (fun br=>?_) (fun bo=>?_)
   ·refine go ?_;refine aH (σ:=Nat) [] (fun i=>[(0,.slice p (L-32*n) k),(3,.int .u64 (L:Nat)),(6,bf W),(30,ay i)]) (fun i=>[(W,bn .u64 4 (ji tx n i) 83)]) (fun i=>i<=4) (fun i=>4-i) 0 (.cons (F8 _ _ _) .nil) (Nat.zero_le _) ?_
    intro i f hi;refine go ?_;refine ac rfl (fun M=>?_) (fun M=>?_)
    ·refine go ?_;refine cT (8*i) (8*i+8) g rfl rfl rfl rfl rfl rfl rfl aa aa rfl ?_
     have a9:=g.sub (l:=8*i) (h:=8*i+8) aa aa
     refine go ?_;refine aA (yK a9.add (fun _=>hx _) aa) ?_
     rw[show 8*i+8-8*i=8 from aa,DH];refine go ?_;refine aA (vG (ji tx n i (0+i)) rfl) ?_
     rw[show ji tx n i (0+i)=fv tx n i by rw[Nat.zero_add];exact DK tx n i]
     refine go ?_;exact⟨i+1,aa,aa,cF,.cons (DL _ _ _ _ (Nat.zero_add i) _) .nil⟩
    ·obtain rfl:i=4:=aa;refine go ?_;refine cT 32 (L-32*n) g rfl rfl rfl rfl rfl rfl rfl aa a1 rfl ?_
     refine go ?_;refine⟨(n+1,(ek p 32 k,k-32)),by dsimp only;omega,⟨by dsimp only;omega,?_⟩,⟨by show Value.slice _ (L-32*n-32) _=Value.slice _ (L-32*(n+1)) _;rw[show L-32*n-32=L-32*(n+1) from aa],rfl,rfl,trivial⟩,.cons (F9 _ _ _) .nil⟩
     have:=g.sub (l:=32) (h:=L-32*n) aa (aZ _)
     rw[show L-32*n-32=L-32*(n+1) from aa] at this;exact this.congr fun i _=>by
      show tx (32*n+(32+i))=tx (32*(n+1)+i)
      congr 1;omega
   ·have bb:n=L/32:=aa
    subst bb;have hV:=F6 tx (L/32)
    generalize bu:fv tx (L/32)=V at hV;refine go ?_;refine aA (jh (K:=1) 1 rfl (hV 0 (by decide)) (by decide)) ?_
    refine go ?_;refine aA (jh (K:=7) 7 rfl (hV 1 (by decide)) (by decide)) ?_
    refine go ?_;refine eM rfl rfl rfl rfl rfl rfl ?_
    rw[bK];refine go ?_;refine aA (jh (K:=12) 12 rfl (hV 2 (by decide)) (by decide)) ?_
    refine go ?_;refine eM rfl rfl rfl rfl rfl rfl ?_
    rw[bK];refine go ?_;refine aA (jh (K:=18) 18 rfl (hV 3 (by decide)) (by decide)) ?_
    refine go ?_;refine eM rfl rfl rfl rfl rfl rfl ?_
    rw[bK];refine go ?_;refine cz (s:=3) rfl rfl rfl .here (aZ 4) rfl ?_
    obtain⟨hs,U⟩:∃hs,hs=(((kJ (V 0) 1+kJ (V 1) 7)%dR+kJ (V 2) 12)%dR+kJ (V 3) 18)%dR:=⟨_,rfl⟩
    have ad:hs<dR:=by rw[U];exact en _
    rw[<- U];refine go ?_;refine aH (σ:=Nat) [] (fun i=>[(0,.slice p (L-32*(L/32)) k),(3,.int .u64 (L:Nat)),(4,.int .u64 (Iu V hs i:Nat)),(63,.agg #[.int .u64 (V 0:Nat),.int .u64 (V 1:Nat),.int .u64 (V 2:Nat),.int .u64 (V 3:Nat)]),(64,ay i)]) (fun _=>[(W,bn .u64 4 V 83)]) (fun i=>i<=4) (fun i=>4-i) 0 (.refl _) (Nat.zero_le _) ?_
    intro i f hi;refine go ?_;refine ac rfl (fun M=>?_) (fun M=>?_)
    ·have a3:i<4:=aa
     refine go ?_;refine A8 (vs:=[.int .u64 (V 0:Nat),.int .u64 (V 1:Nat),.int .u64 (V 2:Nat),.int .u64 (V 3:Nat)]) rfl rfl rfl rfl rfl rfl a3 (DM V i a3) rfl ?_
     refine go ?_;refine aA (vG (V:=0) 0 rfl) ?_
     refine go ?_;refine fP rfl rfl rfl rfl (hU (DJ V ad _)) (hU (ki _ _)) rfl ?_
     refine go ?_;refine dZ rfl rfl rfl kz rfl rfl ?_
     rw[bK];refine eM rfl rfl rfl vg rfl rfl ?_
     rw[bK];have q:((Iu V hs i ^^^ jG 0 (V i))*zM%dR+HF)%dR=Iu V hs (i+1):=rfl
     rw[q];refine go ?_;exact⟨i+1,aa,aa,cF,.refl _⟩
    ·obtain rfl:i=4:=aa;have hl:L-32*(L/32)=L%32:=aa
     rw[hl] at g ⊢;refine go ?_;refine⟨(Iu V hs 4,(p,k),[(W,bn .u64 4 V 83)]),⟨?_,DJ V ad _,g⟩,cF,.refl _⟩
     unfold iW;rw[ah aa];have:Iu V hs 4=Fq V:=by rw[U];rfl
     rw[<- this]
  ·have a2:L/32=0:=aa
   have hm:L%32=L:=aa
   refine go ?_;refine⟨(Cr,(oa,cp),[]),⟨?_,DI,?_⟩,⟨by rw[hm];rfl,rfl,by show Value.int .u64 2870177450012600261=Value.int .u64 ((Cr:Nat):Int);rw[vh],trivial⟩,.refl _⟩
   ·unfold iW;rw[a2,ai aa];show(Cr+L)%dR=((0+Cr)%dR+L)%dR
    rw[Nat.zero_add,Nat.mod_eq_of_lt DI]
   ·rw[hm,a2];exact hv.congr fun i hi=>by rw[Nat.mul_zero,Nat.zero_add]
 rintro⟨hh,⟨p,k⟩,J1⟩ f ⟨u,O,F⟩
 dsimp only at u O F ⊢
 refine go ?_
 refine eM rfl rfl rfl rfl rfl rfl ?_
 rw[bK,u]
 have y:iW (fv tx (L/32)) L<dR:=en _
 have J:gw tx L=C_ (lV (fun i=>tx (32*(L/32)+i)) (iW (fv tx (L/32)) L) (L%32)):=by unfold gw;rw[bm]
 rw[J]
 clear J u hv B O ax
 generalize iW (fv tx (L/32)) L=u at y ⊢
 have C:∀i,tx (32*(L/32)+i)<256:=fun i=>hx _
 generalize hT:(fun i=>tx (32*(L/32)+i))=T at F ⊢
 have C:∀i,T i<256:=fun i=>by rw[<- hT];exact C i
 clear hT
 have a6:L%32<32:=Nat.mod_lt _ aa
 generalize L%32=r at F a6 ⊢
 refine go ?_
 refine aH (σ:=Nat×(Option Addr×Nat)) [] (fun t=>[(0,.slice t.2.1 (r-8*t.1) t.2.2),(4,.int .u64 (ng T u t.1:Nat))]) (fun _=>J1)
  (fun t=>8*t.1<=r/\aU G t.2.1 (r-8*t.1) t.2.2 (fun i=>T (8*t.1+i))) (fun t=>r-8*t.1) (0,(p,k)) (.refl _) ⟨Nat.zero_le _,F.congr fun i hi=>by rw[Nat.mul_zero,Nat.zero_add]⟩ ?_
 clear F p k
 rintro⟨j,⟨p,k⟩⟩ f ⟨hj,g⟩
 dsimp only at hj g ⊢
 have B:=g.le
 refine go ?_
 refine ac rfl (fun hg=>?_) (fun hg=>?_)
 ·refine go ?_;refine fu 8 g rfl rfl rfl rfl rfl aa rfl ?_
  refine go ?_;refine aA (yK (g.cut (h:=8) aa).add (fun _=>C _) aa) ?_
  rw[DH];refine go ?_;refine aA (vG (V:=0) 0 rfl) ?_
  refine go ?_;refine fP rfl rfl rfl rfl (hU (kB _ y _)) (hU (ki _ _)) rfl ?_
  refine go ?_;refine aA (jh (K:=27) 27 rfl (tY (kB _ y _) (ki _ _)) (by decide)) ?_
  refine dZ rfl rfl rfl kz rfl rfl ?_
  rw[bK];refine eM rfl rfl rfl vg rfl rfl ?_
  rw[bK];have q:(kJ (ng T u j ^^^ jG 0 (l7 fun i=>T (8*j+i))) 27*zM%dR+HF)%dR=ng T u (j+1):=by rw[ng];rfl
  rw[q];refine go ?_;refine cT 8 (r-8*j) g rfl rfl rfl rfl rfl rfl rfl aa B rfl ?_
  rw[show r-8*j-8=r-8*(j+1) from aa];refine go ?_;refine⟨(j+1,(ek p 8 k,k-8)),by dsimp only;omega,⟨by dsimp only;omega,?_⟩,cF,.refl _⟩
  have:=g.sub (l:=8) (h:=r-8*j) aa (aZ _)
  rw[show r-8*j-8=r-8*(j+1) from aa] at this;exact this.congr fun i _=>by
   show T (8*j+(8+i))=T (8*(j+1)+i)
   congr 1;omega
 ·have a7:j=r/8:=aa
  subst a7;refine go ?_;refine bp (σ:=Nat×(Option Addr×Nat)) [] (fun t=>[(0,.slice t.2.1 (r%4) t.2.2),(4,.int .u64 (t.1:Nat))]) (fun _=>J1)
   (fun t=>t.1=(if 4<=r%8 then Bg (ng T u (r/8)) (eX fun i=>T (8*(r/8)+i)) else ng T u (r/8))/\t.1<dR/\aU G t.2.1 (r%4) t.2.2 (fun i=>T (4*(r/4)+i))) ?_ ?_
  ·refine ac rfl (fun be=>?_) (fun be=>?_)
   ·refine go ?_;refine fu 4 g rfl rfl rfl rfl rfl aa rfl ?_
    refine go ?_;refine aA (yK (g.cut (h:=4) aa).add (fun _=>C _) aa) ?_
    rw[It];refine go ?_;refine dZ rfl rfl rfl kz rfl rfl ?_
    rw[bK];refine fP rfl rfl rfl rfl (hU (kB _ y _)) (hU (en _)) rfl ?_
    refine go ?_;refine aA (jh (K:=23) 23 rfl (tY (kB _ y _) (en _)) (by decide)) ?_
    refine dZ rfl rfl rfl pQ rfl rfl ?_
    rw[bK];refine eM rfl rfl rfl vf rfl rfl ?_
    rw[bK];have q:(kJ (ng T u (r/8) ^^^ (eX fun i=>T (8*(r/8)+i))*zM%dR) 23*Fl%dR+G0)%dR=Bg (ng T u (r/8)) (eX fun i=>T (8*(r/8)+i)):=rfl
    rw[q];refine go ?_;refine cT 4 (r-8*(r/8)) g rfl rfl rfl rfl rfl rfl rfl aa B rfl ?_
    rw[show r-8*(r/8)-4=r%4 from aa];refine go ?_;refine⟨(Bg (ng T u (r/8)) (eX fun i=>T (8*(r/8)+i)),(ek p 4 k,k-4)),⟨by rw[ai aa],C9 _ _,?_⟩,cF,.refl _⟩
    have:=g.sub (l:=4) (h:=r-8*(r/8)) aa (aZ _)
    rw[show r-8*(r/8)-4=r%4 from aa] at this;exact this.congr fun i _=>by
     show T (8*(r/8)+(4+i))=T (4*(r/4)+i)
     congr 1;omega
   ·have hl:r-8*(r/8)=r%4:=aa
    rw[hl] at g ⊢;refine go ?_;refine⟨(ng T u (r/8),(p,k)),⟨by rw[ah aa],kB _ y _,g.congr fun i _=>?_⟩,cF,.refl _⟩
    show T (8*(r/8)+i)=T (4*(r/4)+i)
    congr 1;omega
  rintro⟨O,⟨bc,a8⟩⟩ f ⟨aw,H,am⟩;dsimp only at aw H am ⊢;clear g hg hj B;refine go ?_;refine aH (σ:=Nat) [] (fun i=>[(4,.int .u64 (v6 (fun i=>T (4*(r/4)+i)) O i:Nat)),(105,.slice bc (r%4) a8),(106,.int .i64 (r%4:Nat)),(107,ay i)]) (fun _=>J1) (fun i=>i<=r%4) (fun i=>r%4-i) 0 (.refl _) (Nat.zero_le _) ?_
  intro i f hi;refine go ?_;refine ac rfl (fun ba=>?_) (fun bd=>?_)
  ·have bq:i<r%4:=aa
   obtain⟨b0,o0,rfl⟩:=am.some aa;refine go ?_;rw[show T (4*(r/4)+i)%2^IntKind.u64.bits=T (4*(r/4)+i) from Nat.mod_eq_of_lt (by have:=C (4*(r/4)+i);show _<2^64;omega)]
   refine dZ rfl rfl rfl vh rfl rfl ?_
   rw[bK];refine fP rfl rfl rfl rfl (hU (pS _ H _)) (hU (en _)) rfl ?_
   refine go ?_;refine aA (jh (K:=11) 11 rfl (tY (pS _ H _) (en _)) (by decide)) ?_
   refine dZ rfl rfl rfl kz rfl rfl ?_
   rw[bK];have q:kJ (v6 (fun i=>T (4*(r/4)+i)) O i ^^^ T (4*(r/4)+i)*Cr%dR) 11*zM%dR=v6 (fun i=>T (4*(r/4)+i)) O (i+1):=by rw[v6];rfl
   rw[q];refine go ?_;exact⟨i+1,aa,aa,cF,.refl _⟩
  ·obtain rfl:i=r%4:=aa;have I:=pS (fun i=>T (4*(r/4)+i)) H (r%4)
   have a4:v6 (fun i=>T (4*(r/4)+i)) O (r%4)=lV T u r:=by
    unfold lV;dsimp only;rw[aw]
   rw[a4] at I ⊢;generalize bs:lV T u r=F at I ⊢;refine go ?_;refine fP rfl rfl rfl rfl (hU I) (hU (Nat.lt_of_le_of_lt (Nat.div_le_self _ _) I)) rfl ?_
   refine go ?_;refine dZ rfl rfl rfl pQ rfl rfl ?_
   rw[bK];generalize a0:(F ^^^ F/2^33)*Fl%dR=h4;have Y:h4<dR:=a0▸en _
   refine go ?_;refine fP rfl rfl rfl rfl (hU Y) (hU (Nat.lt_of_le_of_lt (Nat.div_le_self _ _) Y)) rfl ?_
   refine go ?_;refine dZ rfl rfl rfl vf rfl rfl ?_
   rw[bK];generalize al:(h4 ^^^ h4/2^29)*G0%dR=h5;have a5:h5<dR:=al▸en _
   refine go ?_;refine fP rfl rfl rfl rfl (hU a5) (hU (Nat.lt_of_le_of_lt (Nat.div_le_self _ _) a5)) rfl ?_
   refine go ?_;refine af ?_;refine ag [2] (post:=[]) (junk:=J1) ?_ rfl (.refl _)
   show Value.int .u64 ((h5 ^^^ h5/2^32:Nat):Int) = .int .u64 ((C_ F:Nat):Int)
   unfold C_;dsimp only;rw[a0,al]
end Go.Proofs.YtogmacnlpclgkaaGreatDoor
namespace Go.Proofs.YtogmacnlpclgkaaGreatDoor
open Go Go.Eng
attribute [local irreducible] RO J av aO
set_option maxRecDepth 20000
variable {G:ao}
theorem G8 (g:Option Addr) (L h:Nat) (tx:Nat->Nat) (hx:∀i,tx i<256) (j:aU G g L h tx) (k:L<=2^31) :
  av Tryz.prog G 35 #[.slice g L h] [] (fun v _=>v = .int .u32 ((gw tx L%4294967296:Nat):Int)):=by
 refine bE Tryz.func35 fun c h0 hex=>?_
 refine go ?_
 refine ae (F_ g L h tx hx j k) ?_
 rintro v m rfl
 refine go ?_
 exact af (bx [2] rfl)
end Go.Proofs.YtogmacnlpclgkaaGreatDoor
