/- Texts L6KSkippedAddsNothing. -/
import Derived.Test.YtogmacnlpclgkaaGreatDoorZL6
set_option linter.all false
namespace Go.Proofs.YtogmacnlpclgkaaGreatDoor
open Go Go.Eng Go.Pz
attribute [local irreducible] RO J av aO
set_option maxRecDepth 20000
variable {G:ao} {dat:Nat->Nat} {N:Nat}
def x9 (z:Int):Nat:=(BitVec.ofInt (IntKind.bits .i64) z&&&BitVec.ofInt (IntKind.bits .i64) 15).toNat
theorem y8 (z:Int):x9 z<=15:=by
 unfold x9
 rw[BitVec.toNat_and]
 exact Nat.le_trans Nat.and_le_right (by decide)
theorem EN {P:Program} {qs:List FuncId} {c:World} {n:Nat} {h0:dx} {ops:Array Oper} {Q:Fr->ao->Prop} {rest:List Oper} {f:Fr} {m:ao} {d:Option Tmp} {T T' tt:TypeId} {pos:String} {aft:Array Edge} {x:Operand} (z:Int) (hx:ev f x = .int .i64 z) (hd:aE n d=true)
  (h:RO P G qs c n h0 ops Q rest (aV f d (.int .i64 (x9 z:Nat))) m):RO P G qs c n h0 ops Q (⟨d,.binOp .and T x (.const (.int .i64 15)) T',tt,pos,aft,none⟩::rest) f m:=by
 refine dq hx rfl rfl hd ?_
 have g:=y8 z
 unfold x9 at g h
 rw[fG (show _<2^63 from aa)]
 exact h
def AH (k L:Nat) (tx:Nat->Nat):Nat->Nat:=gY 8 (gY 4 (iZ (407710288+k)) (iZ L)) tx
set_option maxHeartbeats 1000000 in
theorem y9 (z:Int) (y:Option Addr) (L B:Nat) (tx:Nat->Nat) (hv:aU G y L B tx) (hL:L<=2^31) :
  av Tryz.prog G 23 #[.int .i64 z,.slice y L B] [] (fun v m=>∃r t,v = .slice r (8+L) t/\dH 1 (.slice r (8+L) t) (8+L) (dw (AH (x9 z) L tx)) m):=by
 refine bE Tryz.func23 fun c h0 hex=>?_
 refine go ?_
 refine EN z rfl rfl ?_
 have J:=y8 z
 unfold AH
 generalize x9 z=k at J
 refine go ?_
 refine ae (mL (407710288+k) 4 aa) ?_
 rintro v l ⟨a1,c1,rfl,K⟩
 refine go ?_
 refine ar (mL L 4 aa) ?_ (fm:=l) (hs:=.of_perm an)
 rintro v h ⟨a2,c2,rfl,F⟩
 refine go ?_
 obtain⟨I,O,q⟩:=yI (M:=(l++h)++G) F (fun p V=>by simp[V])
 refine bg (s:=0) (src:=I) (k:=4) (len:=4) (v:=.slice a1 4 c1) (cl:=dw (iZ (407710288+k))) (sm:=l) (fm:=h) rfl rfl rfl rfl z5 (by decide) rfl rfl K
  (.refl _) O (fun x hx=>by rw[q x aa];rfl) aa hex rfl ?_
 intro C s2 j ab
 have j:=bR j (yJ (len:=4) (k:=4) (b:=iZ L) (fun i hi=>q i aa))
 obtain⟨a4,c4,rfl⟩:=bV j
 refine go ?_
 obtain⟨g3,Y,u⟩:=(hv.add (m:=h++s2)).src
 refine bg (s:=0) (src:=g3) (k:=L) (len:=8) (v:=.slice a4 8 c4) (cl:=dw (gY 4 (iZ (407710288+k)) (iZ L))) (sm:=s2) (fm:=h) rfl rfl rfl rfl z5 (by decide) rfl rfl j
  List.perm_append_comm Y (fun x hx=>by rw[u x aa];rfl) aa hex rfl ?_
 intro C W g H
 have g:=bR g (yJ (len:=8) (k:=L) (b:=tx) (fun i hi=>u i aa))
 obtain⟨U,c5,rfl⟩:=bV g
 refine go ?_
 exact af (cE [4] (W) ⟨U,c5,rfl,g⟩ (.of_perm List.perm_append_comm))
theorem JH (k L:Nat) (tx:Nat->Nat) (g:k<=15):bw (AH k L tx) 0=407710288+k:=by
 rw[<- vZ (407710288+k) aa];rfl
theorem JI (k L:Nat) (tx:Nat->Nat) (g:L<2^32):bw (AH k L tx) 4=L:=by
 refine Eq.trans ?_ (vZ L g);rfl
theorem AJ {D:Nat->Nat} (k L:Nat) (tx:Nat->Nat) (h:k<=15) (p:L<2^32) (g:∀i,i<8->D i=AH k L tx i):∃O,cP D (8+L) = .ok (O,0):=by
 have j:bw D 0=407710288+k:=by
  rw[<- JH k L tx h];exact nB fun i hi=>g _ aa
 have l:bw D 4=L:=by
  exact Eq.trans (nB fun i hi=>g _ aa) (JI k L tx p)
 have q:gy D (8+L) 4194304 = .ok (fun _=>0,0,8+L):=by
  unfold gy;rw[ah aa,j,l,ai aa,ah aa,ah aa]
 unfold cP
 rw[show 8+L=(7+L)+1 from aa,df,ai aa,show aX D 0=D from funext fun i=>by unfold aX;rw[Nat.zero_add],show 7+L+1-0=8+L from aa,Nat.sub_zero,q]
 show ∃O,df D (7+L+1) (7+L) (0+(8+L)) _ _=_
 rw[show 7+L=(6+L)+1 from aa,df,ah aa]
 exact⟨_,rfl⟩
theorem AK (n i:Nat):iZ n i<256:=Nat.mod_lt _ (by decide)
theorem IP (k L:Nat) {tx:Nat->Nat} (h:∀i,tx i<256) (i:Nat):AH k L tx i<256:=by
 unfold AH gY
 split
 ·split
  ·exact AK _ _
  ·exact AK _ _
 ·exact h _
theorem Hc {N:Nat} {x y:Nat->Nat} (hx:∀i,x i<256) (g:∀i,y i<256) (i:Nat):jn N x y i<256:=by
 unfold jn
 split
 ·exact hx _
 ·exact g _
theorem EO (N:Nat) (x y:Nat->Nat):aX (jn N x y) N=y:=by
 funext i;unfold aX jn
 rw[ah aa,Nat.add_sub_cancel_left]
set_option maxHeartbeats 1000000 in
theorem lR (S:bN G) (V:jW G) {y:Nat->Nat} {M:Nat} (hx:∀i,dat i<256) (r:Option Addr) (q:Nat) (hv:aU G r N q dat) (z:Int) (_ : -(2^63)<=z/\z<2^63) (hy:∀i,y i<256) (ob:Option Addr) (cq:Nat) (hw:aU G ob M cq y) :
  av Tryz.prog G 9 #[.slice r N q,.int .i64 z,.slice ob M cq] [] (fun v _=>v = .bool true):=by
 obtain⟨fb,al,ad,am⟩:=V.fz
 refine bE Tryz.func9 fun c h0 hex=>?_
 refine go ?_
 refine aJ 16 rfl (fun h1=>?_) (fun h1=>?_)
 ·refine go ?_;exact af (ag [6] rfl)
 refine go ?_
 refine ac rfl (fun h2=>?_) (fun h2=>?_)
 ·refine go ?_;exact af (ag [6] rfl)
 have hN:N<=2147483647:=aa
 have hM:M<=2147483647:=aa
 have hk:=y8 z
 have a5:=IP (x9 z) M hy
 have ab:aU G r N q (jn N dat (AH (x9 z) M y)):=hv.congr fun i hi=>(ai hi).symm
 have a7:=EO N dat (AH (x9 z) M y)
 have hD:=Hc (N:=N) hx a5
 generalize bt:jn N dat (AH (x9 z) M y)=D at ab a7 hD
 refine go ?_
 refine ae (fi r N q hD ab aa) ?_
 rintro v m1 K
 obtain⟨j,l1,g,a6,l,Y,k,rfl,bo⟩:=K.form
 clear K
 refine go ?_
 refine aC z29 rfl hex fun rb b4=>?_
 refine go ?_
 refine ak (s:=2) (vs:=[.slice j l1 g,ay a6,.slice l Y k]) rfl rfl rfl rfl (cC rfl) .here (aZ 3) rfl hex ?_
 refine bj (m':=(rb,cK j l1 g a6 l Y k)::(m1++[])) ci ?_
 refine go ?_
 refine aJ 26 rfl (fun h3=>?_) (fun h3=>?_)
 ·refine go ?_;refine ae (cf S fb al ad am) ?_ (fm:=_) (hs:=.refl _)
  rintro v m rfl;refine go ?_;exact af (bx [6] rfl)
 refine go ?_
 refine ac rfl (fun h4=>?_) (fun h4=>?_)
 ·refine go ?_;refine ae (cf S fb al ad am) ?_ (fm:=_) (hs:=.refl _)
  rintro v m rfl;refine go ?_;exact af (bx [6] rfl)
 obtain⟨rfl,O1,B,F,e1,_,rfl,bd,_⟩:=bo.resolve_right fun h=>h.1 aa
 have K:=b_ bd
 refine go ?_
 refine ar (y9 z ob M cq y hw aa) ?_ (fm:=(rb,cK j l1 g 1 l Y k)::(B++F)) (hs:=.of_perm an)
 rintro v H ⟨os,cs,rfl,bm⟩
 have aw:=b_ bm
 obtain⟨Os,e2⟩:=AJ (D:=AH (x9 z) M y) (x9 z) M y hk aa fun _ _=>rfl
 obtain⟨b1,a9⟩:=AJ (D:=jn (8+M) (AH (x9 z) M y) D) (x9 z) M y hk aa fun i hi=>ai aa
 have ax:=Hc (N:=8+M) a5 hD
 obtain⟨I,_,b5⟩:=y7 ax a9 e1 (EO (8+M) (AH (x9 z) M y) D)
 obtain⟨J,_,_⟩:=y7 hD e1 e2 a7
 rw[lN,List.nil_append,List.append_nil] at I
 rw[lN,List.nil_append,List.append_nil] at J
 have hT:(txt O1 0 l1).length=l1:=by rw[de];omega
 generalize b3:AH (x9 z) M y=sk at *
 refine go ?_
 refine au (z:=.slice none 0 0) (vs:=[.slice os (8+M) cs,.slice r N q]) rfl rfl z22 rfl rfl rfl rfl hex fun lb b6=>?_
 refine go ?_
 refine ar (av.freeze (fm:=(lb,aj [.slice os (8+M) cs,.slice r N q] 22)::H) (pF os r (8+M) N cs q sk D (aw.mono fun p C=>by simp[C]) ab.add aa lb _ (aZ 2) rfl rfl List.mem_cons_self)) ?_ (fm:=(rb,cK j l1 g 1 l Y k)::(B++F)) (hs:=.of_perm an)
 rintro v m ⟨u,⟨oc,cr,rfl,ba⟩,rfl⟩
 have bc:=b_ ba
 refine go ?_
 refine ar (av.freeze (fm:=u) (kY (S.add u) (V.add u) ax oc cr (bc.mono fun p C=>by simp[C]) aa I aa)) ?_ (fm:=(rb,cK j l1 g 1 l Y k)::(lb,aj [.slice os (8+M) cs,.slice r N q] 22)::(B++F++H)) (hs:=.of_perm an)
 rintro v m ⟨W,⟨bb,bs,O4,rfl,a0,a8⟩,rfl⟩
 rw[hT] at a0 a8 ⊢
 refine go ?_
 refine au (z:=.slice none 0 0) (vs:=[.slice r N q,.slice os (8+M) cs]) rfl rfl z22 rfl rfl rfl rfl hex fun kb b2=>?_
 refine go ?_
 refine ar (av.freeze (fm:=(kb,aj [.slice r N q,.slice os (8+M) cs] 22)::H) (pF r os N (8+M) q cs dat sk hv.add (aw.mono fun p C=>by simp[C]) aa kb _ (aZ 2) rfl rfl List.mem_cons_self)) ?_ (fm:=(rb,cK j l1 g 1 l Y k)::(lb,aj [.slice os (8+M) cs,.slice r N q] 22)::(B++F++(u++W))) (hs:=.of_perm an)
 rintro v m ⟨U,⟨od,cd,rfl,a3⟩,rfl⟩
 rw[bt] at a3
 have bv:=b_ a3
 refine go ?_
 refine ar (av.freeze (fm:=U) (kY (S.add U) (V.add U) hD od cd (bv.mono fun p C=>by simp[C]) aa J aa)) ?_ (fm:=(rb,cK j l1 g 1 l Y k)::(kb,aj [.slice r N q,.slice os (8+M) cs] 22)::(lb,aj [.slice os (8+M) cs,.slice r N q] 22)::(B++F++(H++(u++W)))) (hs:=.of_perm an)
 rintro v m ⟨a1,⟨bu,be,O6,rfl,a2,a4⟩,rfl⟩
 rw[hT] at a2 a4 ⊢
 have br:=b_ a0
 have bq:=b_ a2
 have hE:∀O:Nat->Nat,(∀i,i<l1->(txt O1 0 l1)[i]? = some (O i))->∀i,i<l1->O i=O1 i:=fun O h i hi=>by
  have:=h i hi
  rw[fD aa,Nat.zero_add] at this;exact(Option.some.inj this).symm
 refine go ?_
 refine ar (av.freeze (fm:=B++W) (jQ bb j l1 l1 bs g O4 O1 (br.mono fun p C=>by simp[C]) (K.mono fun p C=>by simp[C]) rfl (hE O4 a8))) ?_ (fm:=(rb,cK j l1 g 1 l Y k)::(kb,aj [.slice r N q,.slice os (8+M) cs] 22)::(lb,aj [.slice os (8+M) cs,.slice r N q] 22)::(F++(H++(u++(U++a1))))) (hs:=.of_perm an)
 rintro v m ⟨m0,⟨rfl,rfl⟩,rfl⟩
 refine go ?_
 refine ar (av.freeze (fm:=B++a1) (jQ bu j l1 l1 be g O6 O1 (bq.mono fun p C=>by simp[C]) (K.mono fun p C=>by simp[C]) rfl (hE O6 a4))) ?_ (fm:=(rb,cK j l1 g 1 l Y k)::(kb,aj [.slice r N q,.slice os (8+M) cs] 22)::(lb,aj [.slice os (8+M) cs,.slice r N q] 22)::(F++(H++(u++(U++W))))) (hs:=.of_perm an)
 rintro v m ⟨m0,⟨rfl,rfl⟩,rfl⟩
 refine go ?_
 refine ae (cf S fb al ad am) ?_ (fm:=_) (hs:=.refl _)
 rintro v m rfl
 refine go ?_
 exact af (bx [6] rfl)
end Go.Proofs.YtogmacnlpclgkaaGreatDoor
