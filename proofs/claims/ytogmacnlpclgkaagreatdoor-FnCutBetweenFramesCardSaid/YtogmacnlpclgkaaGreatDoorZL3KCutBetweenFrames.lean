/- Texts L3KCutBetweenFrames. -/
import Derived.Test.YtogmacnlpclgkaaGreatDoorZL4
set_option linter.all false
namespace Go.Proofs.YtogmacnlpclgkaaGreatDoor
open Go Go.Eng Go.Pz
attribute [local irreducible] RO J av aO
set_option maxRecDepth 20000
variable {G:ao} {dat:Nat->Nat} {N:Nat}
def EK (x:Int) (n:Nat):Nat:=(if x.tmod n<0 then x.tmod n+n else x.tmod n).toNat
theorem GB (x:Int) {n:Nat} (i:0<n):EK x n<n:=by
 have h:x.tmod n<n:=Int.tmod_lt_of_pos x aa
 have g : -(n:Int)<x.tmod n:=Int.lt_tmod_of_pos x aa
 unfold EK
 split<;>omega
theorem GC {m:ao} (x:Int) (n:Nat) (l:0<n) (k:n<2^62):aO Tryz.prog G 18 #[.int .i64 x,ay n] m (.int .i64 (EK x n:Nat)):=by
 refine l8 Tryz.func18 fun c h0=>?_
 have j:x.tmod n<n:=Int.tmod_lt_of_pos x aa
 have i : -(n:Int)<x.tmod n:=Int.lt_tmod_of_pos x aa
 unfold EK
 refine go ?_
 refine uN rfl rfl aa rfl ?_
 generalize x.tmod n=r at j i
 refine go ?_
 refine bp (σ:=Nat) [] (fun y=>[(0,ay y)]) (fun _=>[]) (fun y=>y=(if r<0 then r+n else r).toNat) ?_ ?_
 ·refine ac rfl (fun h=>?_) (fun g=>?_)
  ·refine go ?_;exact⟨(r+n).toNat,by rw[ai h],⟨by show Value.int _ _=Value.int _ _;congr 1;omega,trivial⟩,.refl _⟩
  ·refine go ?_;exact⟨r.toNat,by rw[ah g],⟨by show Value.int _ _=Value.int _ _;congr 1;omega,trivial⟩,.refl _⟩
 rintro y f rfl
 refine go ?_
 exact af (ag [4] rfl)
set_option maxHeartbeats 1000000 in
theorem mO (S:bN G) (V:jW G) (hd:∀i,dat i<256) (oa:Option Addr) (cp:Nat) (U:aU G oa N cp dat) (z:Int) (_ : -(2^63)<=z/\z<2^63) :
  av Tryz.prog G 4 #[.slice oa N cp,.int .i64 z] [] (fun v _=>v = .bool true):=by
 obtain⟨fb,I,H,J⟩:=V.fz
 have bq:=U.le
 refine bE Tryz.func4 fun c h0 hex=>?_
 refine go ?_
 refine ac rfl (fun h1=>?_) (fun h1=>?_)
 ·refine go ?_;exact af (ag [4] rfl)
 have hN:N<=2147483647:=aa
 refine go ?_
 refine ae (fi oa N cp hd U aa) ?_
 cases hr:cP dat N with
 | op =>
  rintro v m ⟨rfl,rfl⟩;refine go ?_;refine aC z29 rfl hex fun F a3=>?_
  refine go ?_;refine ak (s:=2) (vs:=[.slice none 0 0,.int .i64 ((0:Nat):Int),.slice none 0 0]) rfl rfl rfl rfl (cC rfl) .here (aZ 3) rfl hex ?_
  refine go ?_;refine ld rfl ?_
  refine go ?_;refine ae (cf S fb I H J) ?_ (fm:=_) (hs:=.refl _)
  rintro v m rfl;refine go ?_;exact af (bx [4] rfl)
 | wr =>
  rintro v m ⟨rfl,rfl⟩;refine go ?_;refine aC z29 rfl hex fun F a3=>?_
  refine go ?_;refine ak (s:=2) (vs:=[.slice none 0 0,.int .i64 ((2:Nat):Int),.slice none 0 0]) rfl rfl rfl rfl (cC rfl) .here (aZ 3) rfl hex ?_
  refine go ?_;refine ld rfl ?_
  refine go ?_;refine ae (cf S fb I H J) ?_ (fm:=_) (hs:=.refl _)
  rintro v m rfl;refine go ?_;exact af (bx [4] rfl)
 | ok R =>
  obtain⟨O,l⟩:=R;rintro v m ⟨j,g,ea,M,om,em,rfl,rfl,bd,a0⟩;have h0:=nz hr
  obtain⟨_,_,_,a4,ab,dE,_⟩:=oE N hr (Nat.zero_le _) (Nat.zero_le _)
  have hlen:=ti dat N N 0 0
  generalize iy dat N N 0 0=es at a0 a4 ab dE hlen ⊢;have q:0<es.length:=List.length_pos_iff.2 (ab h0)
  obtain⟨k,W,Y,rfl,rfl,br,bm⟩:=uI a0 q;refine go ?_;refine aC z29 rfl hex fun F a3=>?_
  refine go ?_;refine ak (s:=2) (vs:=[.slice j l g,.int .i64 ((1:Nat):Int),.slice (some ⟨k,W,none⟩) es.length M]) rfl rfl rfl rfl (cC rfl) .here (aZ 3) rfl hex ?_
  refine bj (m':=(F,cK j l g 1 (some ⟨k,W,none⟩) es.length M)::(om++[(k,Y)]++[])) ci ?_
  refine go ?_;refine oI rfl ?_
  refine fW ?_;refine dk ?_;refine kO (qs:=[18]) [0,1,2,3,4,5,6,7,8,9] rfl (by kernel_rfl) ?_
  refine go ?_;refine aA (GC z es.length q aa) ?_
  have hy:=GB z q
  generalize EK z es.length=y at hy;refine go ?_;refine aK (v:=.int .i64 (es.getD y 0:Nat)) rfl rfl (b:=k) (B:=Y) (by simp) aa (bm y hy) rfl ?_
  have t:es.getD y 0∈es:=by
   rw[List.getD_eq_getElem?_getD,List.getElem?_eq_getElem hy];exact List.getElem_mem hy
  generalize es.getD y 0=e at t;obtain⟨_,a2⟩:=a4 e t;obtain⟨O2,l2,h2,ba,a7⟩:=dE e t e (aZ _)
  have r:cP dat e = .ok (O2,l2):=h2
  refine go ?_;refine fu e U rfl rfl rfl rfl rfl aa rfl ?_
  refine go ?_;refine ar (lO S V hd oa cp (U.cut a2) aa (by rw[r];exact fun h=>by cases h)) ?_ (fm:=(F,cK j l g 1 (some ⟨k,W,none⟩) es.length M)::(om++[(k,Y)])) (hs:=.of_perm an)
  rw[r];rintro v C ⟨ax,ad,O3,rfl,a6,aw⟩;have u:=b_ bd
  have am:=b_ a6
  refine go ?_;refine aJ 43 rfl (fun _=>?_) (fun h=>absurd aa h)
  refine go ?_;refine fu l2 u rfl rfl rfl rfl rfl (by have:=u.le;omega) rfl ?_
  refine go ?_;refine ar (av.freeze (fm:=om++C) (jQ ax j l2 l2 ad g O3 O (am.mono fun p K=>by simp[K]) ((u.cut ba).mono fun p K=>by simp[K]) rfl fun i hi=>(aw i hi).trans (a7 i hi))) ?_ (fm:=[(F,cK j l g 1 (some ⟨k,W,none⟩) es.length M),(k,Y)]) (hs:=.of_perm an)
  rintro v m ⟨m0,⟨rfl,rfl⟩,rfl⟩;refine go ?_;refine fu e U rfl rfl rfl rfl rfl aa rfl ?_
  refine go ?_;refine ar (fi oa e cp hd (U.cut a2) aa) ?_ (fm:=[(F,cK j l g 1 (some ⟨k,W,none⟩) es.length M),(k,Y)]++(om++C)) (hs:=.of_perm an)
  rw[r];rintro v m ⟨a1,al,a9,bo,bc,a8,rfl,rfl,a5,_⟩;have bb:=b_ a5
  unfold tH;refine go ?_;refine wj (vs:=[.slice a1 l2 al,.int .i64 ((1:Nat):Int),.slice a9 _ bo]) rfl rfl rfl rfl rfl ?_
  refine go ?_;refine ar (av.freeze (fm:=C++bc) (jQ ax a1 l2 l2 ad al O3 O2 (am.mono fun p K=>by simp[K]) (bb.mono fun p K=>by simp[K]) rfl aw)) ?_ (fm:=[(F,cK j l g 1 (some ⟨k,W,none⟩) es.length M),(k,Y)]++(om++a8)) (hs:=.of_perm an)
  rintro v m ⟨m0,⟨rfl,rfl⟩,rfl⟩;refine go ?_;refine ae (cf S fb I H J) ?_ (fm:=_) (hs:=.refl _)
  rintro v m rfl;refine go ?_;exact af (bx [4] rfl)
end Go.Proofs.YtogmacnlpclgkaaGreatDoor
