/- Texts 38. -/
import Derived.Test.YtogmacnlpclgkaaGreatDoorX37
set_option linter.all false
namespace Go.Proofs.YtogmacnlpclgkaaGreatDoor
open Go Go.Eng Go.Pz
attribute [local irreducible] RO J av aO
set_option maxRecDepth 20000
variable {G:ao} {dat:Nat->Nat} {N:Nat}
theorem GD (z:Int):av Tryz.prog G 26 #[.int .i64 z] [] (fun v m=>m=[]/\v = .int .i64 (vE z:Nat)):=by
 refine bE Tryz.func26 fun c h0 hex=>?_
 unfold vE
 refine go ?_
 refine ac rfl (fun h=>?_) (fun h=>?_)
 ·refine go ?_;exact af (ag [2] ⟨rfl,by rw[ai h];rfl⟩)
 ·refine go ?_;refine af ?_;refine ag [2] ⟨rfl,?_⟩
  rw[ah h];show Value.int .i64 z=Value.int .i64 _
  congr 1
  have h:¬z<0:=h
  omega
theorem qu (r:Option Addr) (n u:Nat) (z:Nat->Int) (O:fR G r n u z) (U:n<=2^40) :
  av Tryz.prog G 25 #[.slice r n u] [] (fun v m=>m=[]/\∃b,v = .bool b/\(b=false->∀i,i<n->z i<=4194304)):=by
 refine bE Tryz.func25 fun c h0 hex=>?_
 refine go ?_
 refine aH (σ:=Nat×Nat) [] (fun t=>[(3,ay t.2),(6,.slice r n u),(7,ay n),(8,ay t.1)]) (fun _=>[]) (fun t=>t.1<=n/\t.2<=4194304/\∀i,i<t.1->z i<=4194304) (fun t=>n-t.1) (0,0) (.refl _) ⟨Nat.zero_le _,Nat.zero_le _,fun i hi=>absurd hi (Nat.not_lt_zero _)⟩ ?_
 rintro⟨i,s⟩ f ⟨hi,hs,g⟩
 dsimp only at hi hs g ⊢
 refine go ?_
 refine ac rfl (fun H=>?_) (fun F=>?_)
 ·have l:i<n:=aa
  obtain⟨b,o,B,rfl,hB,J,q⟩:=O.some aa;refine go ?_;refine aK (v:=.int .i64 (z i)) rfl rfl hB aa (q i l) rfl ?_
  refine go ?_;refine ac rfl (fun M=>?_) (fun M=>?_)
  ·refine go ?_;exact af (ag [2] ⟨rfl,true,rfl,fun h=>by cases h⟩)
  have y:z i<=4194304:=aa
  have p:vE (z i)<=4194304:=by unfold vE;split<;>omega
  refine go ?_;refine ae (GD (z i)) ?_
  rintro v m ⟨rfl,rfl⟩;generalize vE (z i)=k at p;refine go ?_;refine ac rfl (fun I=>?_) (fun I=>?_)
  ·refine go ?_;exact af (ag [2] ⟨rfl,true,rfl,fun h=>by cases h⟩)
  refine go ?_;exact⟨(i+1,s+k),by dsimp only;omega,⟨by dsimp only;omega,by dsimp only;omega,fun j C=>by
   by_cases K:j=i
   ·rw[K];exact y
   ·exact g j (by dsimp only at C;omega)⟩,cF,.refl _⟩
 ·refine go ?_;exact af (ag [2] ⟨rfl,false,rfl,fun _ j C=>g j aa⟩)
def Hd (dat:Nat->Nat) (N:Nat) (p0:PS CE) (z:Nat->Int) (v:Value) (n:Nat) (j bl:ao):Prop :=
 ∃cl:Nat->Value,dH 3 v n cl j/\∀i,i<n->∃g h,cl (3*i) = .int .i64 ((im dat N (cZ dat N p0 z i) (z i)).2.1:Nat)/\cl (3*i+1) = .slice g (im dat N (cZ dat N p0 z i) (z i)).2.1 h /\
  cl (3*i+2) = .int .i64 ((im dat N (cZ dat N p0 z i) (z i)).2.2.1:Nat)/\aU bl g (im dat N (cZ dat N p0 z i) (z i)).2.1 h (im dat N (cZ dat N p0 z i) (z i)).2.2.2
theorem pG (hd:∀i,dat i<256) {p0:PS CE} (h:oF p0) (z:Nat->Int):∀i,oF (cZ dat N p0 z i)
 | 0=>h
 | i+1=>Il hd (pG hd h z i) (z i)
structure JJ where
 i:Nat
 m:ao
 om:ao
 bl:ao
 j:ao
 oa:Option Addr
 cp:Nat
set_option maxHeartbeats 1000000 in
theorem rM (S:bN G) (V:jW G) (hd:∀i,dat i<256) (u:Option Addr) (q:Nat) (hv:aU G u N q dat) (hN:N<2^60) (ob:Option Addr) (n cq:Nat) (z:Nat->Int) (hz:fR G ob n cq z) (hn:n<=2^39) (ad:∀i,i<n->z i<=4194304) :
  av Tryz.prog G 24 #[.slice u N q,.slice ob n cq] [] (fun v m=>∃H bl,m=H++bl/\Hd dat N (PS.init CE.zero) z v n H bl):=by
 refine bE Tryz.func24 fun c h0 hex=>?_
 refine go ?_
 refine ae (uZ u N q) ?_
 rintro v m ⟨O,rfl,rfl⟩
 refine go ?_
 refine ae (kh G 58 (bf O)) ?_
 rintro v m ⟨Y,rfl,rfl⟩
 refine go ?_
 have a2:=sr S u q O hv hN jd CE.zero ns Y
 refine aH (σ:=JJ) [] (fun t=>[(5,bf Y),(6,.slice t.oa t.i t.cp),(13,.slice ob n cq),(14,ay n),(15,ay t.i)]) (fun t=>t.m++(t.om++(t.bl++t.j)))
  (fun t=>t.i<=n/\jV (fH S dat u N q O hv hN) jd Y (cZ dat N (PS.init CE.zero) z t.i) t.m/\Hd dat N (PS.init CE.zero) z (.slice t.oa t.i t.cp) t.i t.om t.bl) (fun t=>n-t.i) ⟨0,_,[],[],[],none,0⟩ (by simp only[List.append_nil];exact .refl _)
  ⟨Nat.zero_le _,a2,fun _=>undef,.inl ⟨rfl,rfl,rfl⟩,fun i hi=>absurd hi (Nat.not_lt_zero _)⟩ ?_
 rintro⟨i,m1,H,bl,j1,a1,aw⟩ f ⟨hi,W,J⟩
 dsimp only at hi W J ⊢
 refine go ?_
 refine ac rfl (fun bd=>?_) (fun bc=>?_)
 ·have C:i<n:=aa
  obtain⟨b,o,B,rfl,hB,ba,ab⟩:=hz.some aa;refine go ?_;refine aK (v:=.int .i64 (z i)) rfl rfl (List.mem_append.2 (.inr hB)) aa (ab i C) rfl ?_
  refine go ?_;have a9:=ad i C
  refine ae (Ad V (fH S dat u N q O hv hN) hd (rE S dat hd u N q O hv hN) aa Y _ m1 W (pG hd mK z i) (z i) aa) ?_ (fm:=H++(bl++j1)) (hs:=.refl _)
  rintro v m' ⟨m2,M,l,h,K,rfl,rfl,F⟩;have y:=DD (dat:=dat) (N:=N) (cZ dat N (PS.init CE.zero) z i) (z i)
  have I:cZ dat N (PS.init CE.zero) z (i+1)=(im dat N (cZ dat N (PS.init CE.zero) z i) (z i)).1:=rfl
  obtain⟨cl,ax,a6⟩:=J;have a8:∀k,k=i->∃u q,(im dat N (cZ dat N (PS.init CE.zero) z k) (z k)).2.1=(im dat N (cZ dat N (PS.init CE.zero) z i) (z i)).2.1:=fun k hk=>by subst hk;exact⟨u,q,rfl⟩
  generalize a4:im dat N (cZ dat N (PS.init CE.zero) z i) (z i)=r at K F y I;obtain⟨p2,k,code,D⟩:=r;dsimp only at K F y I ⊢;refine go ?_;refine eK (s:=2) [[ay k,.slice l k h,ay code]] rfl rfl z43 rfl (by decide) (fun a ha=>by rw[List.mem_singleton.1 ha];rfl) rfl rfl rfl hex fun eb be=>?_
  refine go ?_;refine bg (s:=2) (src:=fun x=>(aj ([[Value.int .i64 (k:Nat),.slice l k h,ay code]].flatten) 43).g (0+x)) (k:=1) (len:=i) (v:=.slice a1 i aw) (cl:=cl) (sm:=H) (fm:=(eb,aj ([[Value.int .i64 (k:Nat),.slice l k h,ay code]].flatten) 43)::(M++(m2++(bl++j1)))) rfl rfl rfl rfl z43 (by decide) rfl rfl ax
   an (k_.of (B:=aj ([[Value.int .i64 (k:Nat),.slice l k h,ay code]].flatten) 43) (by simp) (by show 0+1*(2+1)<=3;decide)) (fun j hj=>?_) aa hex rfl ?_
  ·rw[Nat.zero_add]
   match j,hj with
   | 0,_=>rfl
   | 1,_=>rfl
   | 2,_=>rfl
  intro v' a0 U a7
  obtain⟨a3,al,rfl⟩:=bV U;refine go ?_;refine⟨⟨i+1,m2,a0,M++bl,(eb,aj ([[Value.int .i64 (k:Nat),.slice l k h,ay code]].flatten) 43)::j1,a3,al⟩,by dsimp only;omega,⟨by dsimp only;omega,by dsimp only;rw[I];exact K,_,U,fun x hx=>?_⟩,cF,.of_perm an⟩
  dsimp only at hx ⊢;by_cases he:x=i
  ·subst he;rw[a4];dsimp only;refine⟨l,h,?_,?_,?_,F.mono fun p hp=>List.mem_append.2 (.inl hp)⟩
   ·rw[ah aa,show 3*x-x*(2+1)=0 from aa];rfl
   ·rw[ah aa,show 3*x+1-x*(2+1)=1 from aa];rfl
   ·rw[ah aa,show 3*x+2-x*(2+1)=2 from aa];rfl
  ·obtain⟨am,a5,c1,c2,c3,c4⟩:=a6 x aa;refine⟨am,a5,?_,?_,?_,c4.mono fun p hp=>List.mem_append.2 (.inr hp)⟩
   ·rw[ai aa];exact c1
   ·rw[ai aa];exact c2
   ·rw[ai aa];exact c3
 ·obtain rfl:i=n:=aa;refine go ?_;exact af (ii [4] (H++bl) ⟨H,bl,rfl,J⟩)
def gJ (dat:Nat->Nat) (N:Nat) (p0:PS CE) (z:Nat->Int) (i:Nat):PS CE×Nat×Nat×(Nat->Nat):=im dat N (cZ dat N p0 z i) (z i)
theorem Hd.at {p0:PS CE} {z:Nat->Int} {a:Option Addr} {n c:Nat} {q bl:ao} (h:Hd dat N p0 z (.slice a n c) n q bl) {i:Nat} (hi:i<n) :
  ∃b o B d e,a=some ⟨b,o,none⟩/\(b,B)∈q/\o+i*(2+1)+(2+1)<=B.n/\ej (2+1) (fun j=>B.g (o+i*(2+1)+j))=[.int .i64 ((gJ dat N p0 z i).2.1:Nat),.slice d (gJ dat N p0 z i).2.1 e,.int .i64 ((gJ dat N p0 z i).2.2.1:Nat)] /\
   aU bl d (gJ dat N p0 z i).2.1 e (gJ dat N p0 z i).2.2.2:=by
 obtain⟨cl,k,l⟩:=h
 obtain⟨d,e,A,u,t,r⟩:=l i hi
 rcases k with⟨_,h,_⟩|⟨b,o,cap,B,y,rfl,C,F,H,p⟩
 ·omega
 ·cases y;refine⟨b,o,B,d,e,rfl,List.mem_singleton.2 rfl,aa,?_,r⟩
  show[B.g (o+i*(2+1)+0),B.g (o+i*(2+1)+1),B.g (o+i*(2+1)+2)]=_
  rw[show o+i*(2+1)+0=o+3*i from aa,show o+i*(2+1)+1=o+(3*i+1) from aa,show o+i*(2+1)+2=o+(3*i+2) from aa,p _ aa,p _ aa,p _ aa,A,u,t]
  rfl
theorem Hd.form {p0:PS CE} {z:Nat->Int} {v:Value} {n:Nat} {i bl:ao} (h:Hd dat N p0 z v n i bl):∃a c,v = .slice a n c:=by
 obtain⟨cl,g,_⟩:=h
 exact bV g
theorem xU {m:ao} (z:Int):aO Tryz.prog G 26 #[.int .i64 z] m (.int .i64 (vE z:Nat)):=by
 refine l8 Tryz.func26 fun c h0=>?_
 unfold vE
 refine go ?_
 refine ac rfl (fun h=>?_) (fun h=>?_)
 ·refine go ?_;exact af (ag [2] (by rw[ai h];rfl))
 ·refine go ?_;refine af ?_;refine ag [2] ?_
  rw[ah h];show Value.int .i64 z=Value.int .i64 _
  congr 1
  have h:¬z<0:=h
  omega
def PS.reset {E:Type} (p:PS E):PS E:={ p with pos:=0,saw:=false,sum:=false,one:=false,unk:=false,rem:=0,bl:=0,off:=0 }
theorem Cn {S:bN G} {src:dn S dat N} {E:Type} {dz:E->RX->ao->Prop} {A:Nat} {p:PS E} {m:ao} (hm:jV src dz A p m) :
  ∃x s i rest jk,m=(A,az x s)::(jk++rest)/\((s.buf = .slice none 0 0/\i = .slice none 0 0)\/∃b o l K,l<=K/\s.buf = .slice (some ⟨b,o,none⟩) l K/\i = .slice (some ⟨b,o,none⟩) 0 K) /\
   ∀{r:Nat->Nat} {N2:Nat} (g:dn S r N2) (j:g.σ),g.ok j->g.pos j=0->jV g dz A p.reset ((A,az 0 (s.reset (.iface g.t g.rv) i))::(g.mem j++rest)):=by
 obtain⟨x,s,q,z,y,em,rfl,h1,h2,h3,U,W,h6,V,h8,Y,F,u,ab,k⟩:=hm
 rcases F with⟨I,O,M,H⟩|⟨b,cap,B,I,O,M,H,g5,g6,g7⟩
 ·refine⟨x,s,.slice none 0 0,z++(y++em),src.mem q,rfl,.inl ⟨I,rfl⟩,fun g j C J=>?_⟩
  exact⟨0,_,j,z,y,em,rfl,C,J,rfl,U,⟨rfl,rfl,rfl,rfl,rfl,rfl,W.2.2.2.2.2.2⟩,oY,V,Nat.zero_le _,Y,.inl ⟨rfl,rfl,M,H⟩,u,fun h=>absurd (show false=true from h) (by decide),k⟩
 ·refine⟨x,s,.slice (bi b) 0 cap,z++(y++em),src.mem q,rfl,.inr ⟨b,0,_,cap,g5,I,rfl⟩,fun g j C J=>?_⟩
  exact⟨0,_,j,z,y,em,rfl,C,J,rfl,U,⟨rfl,rfl,rfl,rfl,rfl,rfl,W.2.2.2.2.2.2⟩,oY,V,Nat.zero_le _,Y,.inr ⟨b,cap,B,rfl,O,M,H,Nat.zero_le _,g6,g7⟩,u,fun h=>absurd (show false=true from h) (by decide),k⟩
theorem Co {p:PS CE} (h:oF p):oF p.reset:=⟨h.s,h.l,h.e,h.w⟩
theorem xY (hd:∀i,dat i<256) {O:Nat->Nat} {l:Nat} (h:cP dat N = .ok (O,l)) (q:PS CE):gk dat N q.reset (txt O 0 l) 1/\l<=4194304:=by
 have h0:=nz h
 have:=jU (N:=N) hd N 0 (fun _=>0) 0 q.reset (Nat.zero_le _) rfl rfl (by show ¬(0:Nat)<0;omega) (fun e=>aa) (Nat.zero_le _)
 unfold cP at h
 rw[h] at this
 exact⟨this.2.2.2,this.2.1⟩
theorem xZ (hd:∀i,dat i<256) (h:cP dat N = .wr) (q:PS CE):∃T,T.length<=4194304/\gk dat N q.reset T 2:=by
 have h0:0<N:=by
  cases N with
  | zero=>cases h
  | succ n=>exact Nat.succ_pos n
 have:=jU (N:=N) hd N 0 (fun _=>0) 0 q.reset (Nat.zero_le _) rfl rfl (by show ¬(0:Nat)<0;omega) (fun e=>aa) (Nat.zero_le _)
 unfold cP at h
 rw[h] at this
 obtain⟨T,j,g⟩:=this
 exact⟨T,aa,g⟩
end Go.Proofs.YtogmacnlpclgkaaGreatDoor
