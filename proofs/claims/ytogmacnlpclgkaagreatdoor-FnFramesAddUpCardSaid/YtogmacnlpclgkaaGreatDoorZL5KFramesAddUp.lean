/- Texts L5KFramesAddUp. -/
import Derived.Test.YtogmacnlpclgkaaGreatDoorX37
set_option linter.all false
namespace Go.Proofs.YtogmacnlpclgkaaGreatDoor
open Go Go.Eng Go.Pz
attribute [local irreducible] RO J av aO
set_option maxRecDepth 20000
variable {G:ao} {dat:Nat->Nat} {N:Nat}
set_option maxHeartbeats 1000000 in
theorem rj (S:bN G) (V:jW G) {x y:Nat->Nat} {M:Nat} (hx:∀i,x i<256) (I:Option Addr) (H:Nat) (hv:aU G I N H x) (hy:∀i,y i<256) (K:Option Addr) (cq:Nat) (hw:aU G K M cq y) :
  av Tryz.prog G 6 #[.slice I N H,.slice K M cq] [] (fun v _=>v = .bool true):=by
 obtain⟨fb,al,ad,am⟩:=V.fz
 refine bE Tryz.func6 fun c h0 hex=>?_
 refine go ?_
 refine aJ 12 rfl (fun h1=>?_) (fun h1=>?_)
 ·refine go ?_;exact af (ag [4] rfl)
 refine go ?_
 refine ac rfl (fun h2=>?_) (fun h2=>?_)
 ·refine go ?_;exact af (ag [4] rfl)
 have hN:N<=2147483647:=aa
 have hM:M<=2147483647:=aa
 have a3:aU G I N H (jn N x y):=hv.congr fun i hi=>(ai hi).symm
 have a6:aX (jn N x y) N=y:=by
  funext i;unfold aX jn
  rw[ah aa,Nat.add_sub_cancel_left]
 have hD:∀i,jn N x y i<256:=fun i=>by unfold jn;split;exact hx _;exact hy _
 obtain⟨D,a5⟩:∃D,D=jn N x y:=⟨_,rfl⟩
 rw[<- a5] at a3 a6 hD
 refine go ?_
 refine ae (fi I N H hD a3 aa) ?_
 rintro v m1 U
 obtain⟨l,q,k,a7,C,n1,u,rfl,bm⟩:=U.form
 refine go ?_
 refine ar (fi K M cq hy hw aa) ?_ (fm:=m1) (hs:=.of_perm an)
 rintro v m2 J
 obtain⟨j,l2,g,a1,B,n2,r,rfl,a9⟩:=J.form
 clear U J
 refine go ?_
 refine aC z29 rfl hex fun rb b2=>?_
 refine go ?_
 refine aC z29 rfl hex fun sb bv=>?_
 refine go ?_
 refine ak (s:=2) (vs:=[.slice l q k,ay a7,.slice C n1 u]) rfl rfl rfl rfl (cC rfl) (.there .here) (aZ 3) rfl hex ?_
 refine go ?_
 refine ak (s:=2) (vs:=[.slice j l2 g,ay a1,.slice B n2 r]) rfl rfl rfl rfl (cC rfl) .here (aZ 3) rfl hex ?_
 refine bj (m':=(sb,cK j l2 g a1 B n2 r)::(rb,cK l q k a7 C n1 u)::(m1++m2)) (.cons dT ci) ?_
 refine go ?_
 refine aJ 24 rfl (fun h3=>?_) (fun h3=>?_)
 ·refine go ?_;refine ae (cf S fb al ad am) ?_ (fm:=_) (hs:=.refl _)
  rintro v m rfl;refine go ?_;exact af (bx [4] rfl)
 refine go ?_
 refine ac rfl (fun h4=>?_) (fun h4=>?_)
 ·refine go ?_;refine ae (cf S fb al ad am) ?_ (fm:=_) (hs:=.refl _)
  rintro v m rfl;refine go ?_;exact af (bx [4] rfl)
 obtain⟨rfl,O1,W,ab,e1,_,rfl,bc,_⟩:=bm.resolve_right fun h=>h.1 aa
 obtain⟨rfl,O2,Y,O,e2,_,rfl,be,_⟩:=a9.resolve_right fun h=>h.1 aa
 obtain⟨a2,b4,b3⟩:=y7 hD e1 e2 a6
 refine go ?_
 refine au (z:=.slice none 0 0) (vs:=[.slice I N H,.slice K M cq]) rfl rfl z22 rfl rfl rfl rfl hex fun lb b5=>?_
 refine go ?_
 refine ar (av.freeze (fm:=[(lb,aj [.slice I N H,.slice K M cq] 22)]) (pF I K N M H cq x y hv.add hw.add aa lb _ (aZ 2) rfl rfl List.mem_cons_self)) ?_ (fm:=(sb,cK j l2 g 1 B n2 r)::(rb,cK l q k 1 C n1 u)::(W++ab++(Y++O))) (hs:=.of_perm an)
 rintro v m ⟨F,⟨oc,cr,rfl,aw⟩,rfl⟩
 rw[<- a5] at aw
 have bb:=b_ aw
 refine go ?_
 refine ar (av.freeze (fm:=F) (kY (S.add F) (V.add F) hD oc cr (bb.mono fun p hp=>by simp[hp]) aa a2 (by simp only[List.length_append,de,List.length_nil];omega))) ?_ (fm:=(sb,cK j l2 g 1 B n2 r)::(rb,cK l q k 1 C n1 u)::(lb,aj [.slice I N H,.slice K M cq] 22)::(W++ab++(Y++O))) (hs:=.of_perm an)
 rintro v m ⟨a0,⟨ba,bs,O4,rfl,ax,a8⟩,rfl⟩
 have hT:(txt O1 0 q++(txt O2 0 l2++[])).length=q+l2:=by simp only[List.length_append,de,List.length_nil];omega
 rw[hT] at ax a8 ⊢
 refine go ?_
 refine au (z:=.slice none 0 0) (vs:=[.slice l q k,.slice j l2 g]) rfl rfl z22 rfl rfl rfl rfl hex fun kb b1=>?_
 have U:=b_ bc
 have J:=b_ be
 have bq:=b_ ax
 refine go ?_
 refine ar (av.freeze (fm:=(kb,aj [.slice l q k,.slice j l2 g] 22)::(W++Y)) (pF l j q l2 k g O1 O2 (U.mono fun p hp=>by simp[hp]) (J.mono fun p hp=>by simp[hp]) aa kb _ (aZ 2) rfl rfl List.mem_cons_self)) ?_ (fm:=(sb,cK j l2 g 1 B n2 r)::(rb,cK l q k 1 C n1 u)::(lb,aj [.slice I N H,.slice K M cq] 22)::(ab++(O++(F++a0)))) (hs:=.of_perm an)
 rintro v m ⟨bu,⟨bo,bd,rfl,br⟩,rfl⟩
 have bt:=b_ br
 refine go ?_
 refine ar (av.freeze (fm:=a0++bu) (jQ ba bo (q+l2) (q+l2) bs bd O4 (jn q O1 O2) (bq.mono fun p hp=>by simp[hp]) (bt.mono fun p hp=>by simp[hp]) rfl fun i hi=>?_)) ?_ (fm:=(sb,cK j l2 g 1 B n2 r)::(rb,cK l q k 1 C n1 u)::(lb,aj [.slice I N H,.slice K M cq] 22)::(ab++(O++(F++((kb,aj [.slice l q k,.slice j l2 g] 22)::(W++Y)))))) (hs:=.of_perm an)
 ·have h:=a8 i hi
  unfold jn;by_cases a4:i<q
  ·rw[ai a4];rw[List.getElem?_append_left (by rw[de];omega),fD aa,Nat.zero_add] at h
   exact(Option.some.inj h).symm
  ·rw[ah a4];rw[List.append_nil,List.getElem?_append_right (by rw[de];omega),de,fD aa,Nat.zero_add] at h
   exact(Option.some.inj h).symm
 rintro v m ⟨m0,⟨rfl,rfl⟩,rfl⟩
 refine go ?_
 refine ae (cf S fb al ad am) ?_ (fm:=_) (hs:=.refl _)
 rintro v m rfl
 refine go ?_
 exact af (bx [4] rfl)
end Go.Proofs.YtogmacnlpclgkaaGreatDoor
