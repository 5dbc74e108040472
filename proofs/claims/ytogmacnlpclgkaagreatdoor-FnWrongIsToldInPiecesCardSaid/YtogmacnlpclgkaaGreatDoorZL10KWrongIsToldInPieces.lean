/- Texts L10KWrongIsToldInPieces. -/
import Derived.Test.YtogmacnlpclgkaaGreatDoorX38
import Derived.Test.YtogmacnlpclgkaaGreatDoorZP21
set_option linter.all false
namespace Go.Proofs.YtogmacnlpclgkaaGreatDoor
open Go Go.Eng Go.Pz
attribute [local irreducible] RO J av aO
set_option maxRecDepth 20000
variable {G:ao} {dat:Nat->Nat} {N:Nat}
set_option maxHeartbeats 1000000 in
theorem kZ (S:bN G) (V:jW G) (hd:∀i,dat i<256) (oa:Option Addr) (Y:Nat) (hv:aU G oa N Y dat) (C:Option Addr) (n O:Nat) (z:Nat->Int) (hz:fR G C n O z) :
  av Tryz.prog G 12 #[.slice oa N Y,.slice C n O] [] (fun v _=>v = .bool true):=by
 obtain⟨W,q,p,u⟩:=V.fz
 refine bE Tryz.func12 fun c h0 hex=>?_
 refine go ?_
 refine aJ 11 rfl (fun h1=>?_) (fun h1=>?_)
 ·refine go ?_;exact af (ag [4] rfl)
 refine go ?_
 refine ac rfl (fun h2=>?_) (fun h2=>?_)
 ·refine go ?_;exact af (ag [4] rfl)
 have hN:N<=2147483647:=aa
 have hn:n<=2147483647:=aa
 refine go ?_
 refine ae (fi oa N Y hd hv aa) ?_
 rintro v m1 J
 obtain⟨a2,l1,a0,a4,a3,n1,ax,rfl,aw⟩:=J.form
 clear J
 unfold tH
 refine go ?_
 refine wj (vs:=[.slice a2 l1 a0,ay a4,.slice a3 n1 ax]) rfl rfl rfl rfl rfl ?_
 refine go ?_
 refine aJ 20 rfl (fun h3=>?_) (fun h3=>?_)
 ·refine go ?_;refine ae (cf S W q p u) ?_ (fm:=_) (hs:=.refl _)
  rintro v m rfl;refine go ?_;exact af (bx [4] rfl)
 obtain⟨rfl,a6⟩:m1=[]/\cP dat N = .wr:=by
  rcases aw with⟨h,_⟩|⟨_,h,h4|h4⟩
  ·omega
  ·exact⟨h,h4.2⟩
  ·omega
 obtain⟨T,a8,H⟩:=qt hd a6
 refine go ?_
 refine ae (qu C n O z hz aa) ?_
 rintro v m ⟨rfl,b,rfl,hb⟩
 refine go ?_
 cases b with
 | true =>
  refine ei rfl (fun l=>?_) (fun l=>by cases l)
  refine go ?_;refine ae (cf S W q p u) ?_ (fm:=_) (hs:=.refl _)
  rintro v m rfl;refine go ?_;exact af (bx [4] rfl)
 | false =>
 refine ei rfl (fun l=>by cases l) (fun _=>?_)
 have ad:=hb rfl
 refine go ?_
 refine ae (rM S V hd oa Y hv aa C n O z hz aa ad) ?_ (fm:=[]) (hs:=.refl _)
 rintro v m ⟨M,I,rfl,K⟩
 obtain⟨a1,c1,rfl⟩:=K.form
 refine go ?_
 refine aH (σ:=Nat×ao) [] (fun t=>[(1,.slice C n O),(5,.slice a1 n c1),(28,.slice a1 n c1),(29,ay n),(30,ay t.1)]) (fun t=>M++(I++t.2))
  (fun t=>t.1<=n/\∀j,j<t.1->(gJ dat N (PS.init CE.zero) z j).2.2.1=0) (fun t=>n-t.1) (0,[]) (.of_perm an) ⟨Nat.zero_le _,fun j hj=>absurd hj (Nat.not_lt_zero _)⟩ ?_
 rintro⟨i,j1⟩ f ⟨hi,B⟩
 dsimp only at hi B ⊢
 refine go ?_
 refine ac rfl (fun bb=>?_) (fun a9=>?_)
 ·have y:i<n:=aa
  obtain⟨b1,o1,B1,d1,e1,rfl,ab,a5,eL,x4⟩:=K.at y;have hk:=G7 (dat:=dat) (N:=N) (cZ dat N (PS.init CE.zero) z i) (z i)
  obtain⟨T',al⟩:=q9 H z i B;have U:(gJ dat N (PS.init CE.zero) z i).2.2.1=0\/(gJ dat N (PS.init CE.zero) z i).2.2.1=2:=by
   rcases nC al (z i) with⟨h,_⟩|⟨h,_⟩
   ·exact .inl h
   ·exact .inr h
  have g:(gJ dat N (PS.init CE.zero) z i).2.2.1=0->∀j,j<i+1->(gJ dat N (PS.init CE.zero) z j).2.2.1=0:=fun h j hj=>by
   by_cases he:j=i
   ·rw[he];exact h
   ·exact B j aa
  change (gJ dat N (PS.init CE.zero) z i).2.1<=_ at hk
  generalize gJ dat N (PS.init CE.zero) z i=r at eL x4 hk U g;obtain⟨p2,k,code,D⟩:=r;dsimp only at eL x4 hk U g;refine go ?_;refine gL (s:=2) rfl rfl rfl (List.mem_append.2 (.inl (List.mem_append.2 (.inl ab)))) a5 rfl ?_
  rw[eL];refine go ?_;refine aC z43 rfl hex fun cb ba=>?_
  refine go ?_;refine ak (s:=2) (vs:=[ay k,.slice d1 k e1,ay code]) rfl rfl rfl rfl (cC rfl) .here (aZ 3) rfl hex ?_
  refine bj (m':=(cb,aj [ay k,.slice d1 k e1,ay code] 43)::(M++(I++j1))) ci ?_
  refine kt ?_;refine dk ?_;refine dk ?_;refine kO (qs:=[26]) (List.range 26) rfl (by kernel_rfl) ?_
  refine go ?_;refine aJ 38 rfl (fun h=>absurd h aa) (fun _=>?_)
  refine go ?_;obtain⟨b0,o0,B0,rfl,am,a7,F⟩:=hz.some aa;refine aJ 46 rfl (fun h=>absurd rfl h) (fun _=>?_)
  refine go ?_;refine aK (v:=.int .i64 (z i)) rfl rfl (List.mem_append.2 (.inr am)) aa (F i y) rfl ?_
  refine go ?_;refine aA (xU (z i)) ?_
  refine go ?_;refine aJ 56 rfl (fun h=>absurd h aa) (fun _=>?_)
  refine go ?_;refine ac rfl (fun h=>absurd h aa) (fun _=>?_)
  refine go ?_;refine ac rfl (fun h=>?_) (fun h=>?_)
  ·refine go ?_;refine ae (cf S W q p u) ?_ (fm:=_) (hs:=.refl _)
   rintro v m rfl;refine go ?_;exact af (bx [4] rfl)
  refine go ?_;exact⟨(i+1,(cb,aj [ay k,.slice d1 k e1,ay code] 43)::j1),by dsimp only;omega,⟨by dsimp only;omega,g aa⟩,cF,.of_perm an⟩
 ·refine go ?_;refine ae (cf S W q p u) ?_ (fm:=_) (hs:=.refl _)
  rintro v m rfl;refine go ?_;exact af (bx [4] rfl)
end Go.Proofs.YtogmacnlpclgkaaGreatDoor
