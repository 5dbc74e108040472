/- Texts L8KBytesAgree. -/
import Derived.Test.YtogmacnlpclgkaaGreatDoorX38
import Derived.Test.YtogmacnlpclgkaaGreatDoorZP21
set_option linter.all false
namespace Go.Proofs.YtogmacnlpclgkaaGreatDoor
open Go Go.Eng Go.Pz
attribute [local irreducible] RO J av aO
set_option maxRecDepth 20000
variable {G:ao} {dat:Nat->Nat} {N:Nat}
def xX (y t:Nat):bk:=⟨y*(0+1),fun j=>.int .i64 (if j<t then -1 else 0),3,(0,0)⟩
theorem GE (y t:Nat):((xX y t).st t (.int .i64 (-1))).obj=(xX y (t+1)).obj:=c9 fun i _=>by
 show gK _ t _ i=_
 by_cases h:i=t
 ·subst h;rw[cG,ai aa]
 ·rw[aT _ _ _ _ h];show Value.int _ (if i<t then -1 else 0)=Value.int _ (if i<t+1 then -1 else 0)
  by_cases g:i<t
  ·rw[ai g,ai aa]
  ·rw[ah g,ah aa]
set_option maxHeartbeats 1000000 in
theorem tn (S:bN G) (V:jW G) (hd:∀i,dat i<256) (oa:Option Addr) (cp:Nat) (hv:aU G oa N cp dat) (z:Int) (_ : -(2^63)<=z/\z<2^63) :
  av Tryz.prog G 10 #[.slice oa N cp,.int .i64 z] [] (fun v _=>v = .bool true):=by
 obtain⟨fb,am,al,ax⟩:=V.fz
 refine bE Tryz.func10 fun c h0 hex=>?_
 refine go ?_
 refine ac rfl (fun h1=>?_) (fun h1=>?_)
 ·refine go ?_;exact af (ag [4] rfl)
 have hN:N<=2147483647:=aa
 refine go ?_
 refine ae (fi oa N cp hd hv aa) ?_
 rintro v m1 H
 obtain⟨j,l1,q,a1,u,W,l,rfl,a8⟩:=H.form
 clear H
 refine go ?_
 refine aC z29 rfl hex fun M br=>?_
 refine go ?_
 refine ak (s:=2) (vs:=[.slice j l1 q,ay a1,.slice u W l]) rfl rfl rfl rfl (cC rfl) .here (aZ 3) rfl hex ?_
 refine bj (m':=(M,cK j l1 q a1 u W l)::(m1++[])) ci ?_
 refine go ?_
 refine ac rfl (fun Y=>?_) (fun Y=>?_)
 ·refine go ?_;refine ae (cf S fb am al ax) ?_ (fm:=_) (hs:=.refl _)
  rintro v m rfl;refine go ?_;exact af (bx [4] rfl)
 obtain⟨rfl,O1,F,I,e1,_,rfl,a7,_⟩:=a8.resolve_right fun h=>h.1 aa
 obtain⟨ad,bt⟩:=jz hd e1
 have H:=b_ a7
 have hT:(txt O1 0 l1).length=l1:=by rw[de];omega
 refine go ?_
 refine ar (Ah z 3000 (by decide) (by decide)) ?_ (fm:=(M,cK j l1 q 1 u W l)::(F++I)) (hs:=.of_perm an)
 rintro v m ⟨rfl,y,hy,rfl⟩
 refine go ?_
 refine gm (len:=y) (cap:=y) rfl rfl rfl rfl z3 (by decide) (aZ _) aa hex rfl fun K be=>?_
 refine go ?_
 refine aH (σ:=Nat) [] (fun t=>[(0,.slice oa N cp),(1,ay y),(5,bf M),(6,.slice (bi K) y y),(25,ay y),(26,ay t)])
  (fun t=>(K,xX y t)::(M,cK j l1 q 1 u W l)::(F++I)) (fun t=>t<=y) (fun t=>y-t) 0 (.trans (.cons (B':=xX y 0) (c9 fun i _=>by show bQ _ i=Value.int _ _;unfold bQ;rw[ah (Nat.not_lt_zero _)];show[Value.int .i64 0].getD (i%1) undef=_;rw[Nat.mod_one];rfl) (.refl _)) (.of_perm an)) (Nat.zero_le _) ?_
 ·intro t f ht;refine go ?_;refine ac rfl (fun bc=>?_) (fun bb=>?_)
  ·have O:t<y:=aa
   refine go ?_;refine bD (B:=xX y t) rfl rfl rfl rfl .here (by show _<y*(0+1);omega) rfl hex ?_
   refine go ?_;exact⟨t+1,aa,aa,cF,.cons (by rw[Nat.zero_add];exact GE y t) (.refl _)⟩
  have a9:t=y:=aa
  subst a9;have ba:fR [(K,xX t t)] (bi K) t t (fun _=>-1):=⟨aZ _,.inr ⟨K,0,_,rfl,List.mem_singleton.2 rfl,fun _=>by show 0+t<=t*(0+1);omega,fun i hi=>by show Value.int _ (if 0+i<t then -1 else 0)=_;rw[ai aa]⟩⟩
  refine go ?_;refine ar (av.freeze (fm:=[(K,xX t t)]) (rM (S.add _) (V.add _) hd oa cp hv.add aa (bi K) t t (fun _=>-1) (ba.mono fun p hp=>List.mem_append.2 (.inl hp)) aa (fun _ _=>aa))) ?_ (fm:=(M,cK j l1 q 1 u W l)::(F++I)) (hs:=.of_perm an)
  rintro v m ⟨_,⟨a0,U,rfl,aw⟩,rfl⟩;obtain⟨a2,c2,rfl⟩:=aw.form;refine go ?_;refine ac rfl (fun h=>absurd rfl h) (fun _=>?_)
  refine go ?_;refine aH (σ:=Nat×ao) [] (fun s=>[(5,bf M),(40,.slice a2 t c2),(41,ay t),(42,ay s.1)])
   (fun s=>(M,cK j l1 q 1 u W l)::(F++(a0++(U++s.2)))) (fun s=>s.1<=t) (fun s=>t-s.1) (0,I++[(K,xX t t)]) (.of_perm an) (Nat.zero_le _) ?_
  rintro⟨i,j1⟩ f hi;dsimp only at hi ⊢;refine go ?_;refine ac rfl (fun bc=>?_) (fun bb=>?_)
  ·have O:i<t:=aa
   obtain⟨b1,o1,B1,d1,J,rfl,a4,ab,eL,x4⟩:=aw.at O;have C:=EQ ad (fun _=>-1) i (fun _ _=>by decide)
   change (_->(gJ dat N (PS.init CE.zero) (fun _=>-1) i).2.1=1/\(gJ dat N (PS.init CE.zero) (fun _=>-1) i).2.2.1=0/\_=some ((gJ dat N (PS.init CE.zero) (fun _=>-1) i).2.2.2 0))/\(_->(gJ dat N (PS.init CE.zero) (fun _=>-1) i).2.1=0/\(gJ dat N (PS.init CE.zero) (fun _=>-1) i).2.2.1=1) at C
   generalize gJ dat N (PS.init CE.zero) (fun _=>-1) i=r at eL x4 C
   obtain⟨p2,k,code,D⟩:=r;rw[hT] at C;dsimp only at eL x4 C;refine go ?_;refine gL (s:=2) rfl rfl rfl (b:=b1) (B:=B1) (by simp[a4]) ab rfl ?_
   rw[eL];refine go ?_;refine aC z43 rfl hex fun cb bm=>?_
   refine go ?_;refine ak (s:=2) (vs:=[ay k,.slice d1 k J,ay code]) rfl rfl rfl rfl (cC rfl) .here (aZ 3) rfl hex ?_
   refine bj (m':=(cb,aj [ay k,.slice d1 k J,ay code] 43)::(M,cK j l1 q 1 u W l)::(F++(a0++(U++j1)))) ci ?_
   refine go ?_;refine ac rfl (fun h=>?_) (fun h=>?_)
   ·obtain⟨rfl,rfl,hD⟩:=C.1 aa;rw[fD aa,Nat.zero_add] at hD;have hD:=Option.some.inj hD
    obtain⟨bo,oo,Bo,rfl,a5,bq,hgo⟩:∃bo oo Bo,j=some ⟨bo,oo,none⟩/\(bo,Bo)∈F/\oo+l1<=Bo.n/\∀i,i<l1->Bo.g (oo+i) = .int .u8 (O1 i):=by
     rcases H.is with⟨_,h,_⟩|⟨b,o,B,h1,Y,h3,h4⟩
     ·omega
     ·exact⟨b,o,B,h1,Y,h3 aa,h4⟩
    obtain⟨bd,od,Bd,rfl,a6,bs,a3⟩:∃bd od Bd,d1=some ⟨bd,od,none⟩/\(bd,Bd)∈U/\od+1<=Bd.n/\∀i,i<1->Bd.g (od+i) = .int .u8 (D i):=by
     rcases x4.is with⟨_,h,_⟩|⟨b,o,B,h1,Y,h3,h4⟩
     ·omega
     ·exact⟨b,o,B,h1,Y,h3 aa,h4⟩
    refine go ?_;refine aK (v:=.int .u8 (D 0)) rfl rfl (b:=bd) (B:=Bd) (by simp[a6]) aa (a3 0 aa) rfl ?_
    refine go ?_;refine aK (v:=.int .u8 (O1 i)) rfl rfl (b:=bo) (B:=Bo) (by simp[a5]) aa (hgo i aa) rfl ?_
    refine go ?_;refine ac rfl (fun h=>absurd (by rw[hD]) h) (fun _=>?_)
    refine go ?_;exact⟨(i+1,(cb,aj [.int .i64 ((1:Nat):Int),.slice (some ⟨bd,od,none⟩) 1 J,.int .i64 ((0:Nat):Int)] 43)::j1),by dsimp only;omega,by dsimp only;omega,cF,.of_perm an⟩
   ·obtain⟨rfl,rfl⟩:=C.2 aa;refine go ?_;refine oI rfl ?_
    refine go ?_;exact⟨(i+1,(cb,aj [.int .i64 ((0:Nat):Int),.slice d1 0 J,.int .i64 ((1:Nat):Int)] 43)::j1),by dsimp only;omega,by dsimp only;omega,cF,.of_perm an⟩
  ·refine go ?_;refine ae (cf S fb am al ax) ?_ (fm:=_) (hs:=.refl _)
   rintro v m rfl;refine go ?_;exact af (bx [4] rfl)
end Go.Proofs.YtogmacnlpclgkaaGreatDoor
