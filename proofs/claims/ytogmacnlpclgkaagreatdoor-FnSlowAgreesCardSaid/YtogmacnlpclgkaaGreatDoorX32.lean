/- Texts 32. -/
import Derived.Test.YtogmacnlpclgkaaGreatDoorX31
set_option linter.all false
namespace Go.Proofs.YtogmacnlpclgkaaGreatDoor
open Go Go.Eng Go.Pz
attribute [local irreducible] RO J av aO
set_option maxRecDepth 20000
variable {G:ao} {d:Nat->Nat}
def BZ (a b c e:Nat):bk:=aj [ay a,ay b,ay c,ay e] 3
def tF (a b c e i:Nat):Nat:=if i=0 then a else if i=1 then b else if i=2 then c else e
theorem D9 (a b c e:Nat):BZ a b c e=aj [ay a,ay b,ay c,ay e] 3:=rfl
theorem Hb (a b c e i:Nat) (h:i<4):0+i<(BZ a b c e).n:=by show 0+i<4;omega
theorem D_ (a b c e i:Nat) (h:i<4):(BZ a b c e).g (0+i) = .int .i64 (tF a b c e i:Nat):=by
 match i,h with
 | 0,_=>rfl
 | 1,_=>rfl
 | 2,_=>rfl
 | 3,_=>rfl
theorem JA (a b c e i:Nat) (h:i<4):(aj [ay a,ay b,ay c,ay e] 3).g (0+i) = .int .i64 (tF a b c e i:Nat):=D_ a b c e i h
attribute [local irreducible] BZ
theorem JQ (y:Nat->Nat):bT y 3=y 0+y 1*256+y 2*65536:=by rw[iT y 2 65536 pw.2.2.1,D8]
theorem KE (y:Nat->Nat):bT y 5=y 0+y 1*256+y 2*65536+y 3*16777216+y 4*4294967296:=by rw[iT y 4 4294967296 pw.2.2.2.2.1,IY]
theorem IB (hd:∀i,d i<256) {g:Nat} (hg:g=d 0/4%4):(di d).1=tF 3 3 4 5 g/\(di d).2.1=bT d (tF 3 3 4 5 g)/16%2^tF 10 10 14 18 g/\(di d).2.2=bT d (tF 3 3 4 5 g)/16/2^tF 10 10 14 18 g/\(di d).2.2<2^30:=by
 have h0:=hd 0
 have p:=hd 1
 have j:=hd 2
 have k:=hd 3
 have l:=hd 4
 unfold di
 dsimp only
 rw[<- hg]
 have h:g=0\/g=1\/g=2\/g=3:=aa
 clear hg
 rcases h with rfl|rfl|rfl|rfl
 ·rw[ah (by decide),ah (by decide)]
  show(3:Nat)=3/\_=bT d 3/16%1024/\_=bT d 3/16/1024/\_
  rw[JQ];dsimp only;omega
 ·rw[ah (by decide),ah (by decide)]
  show(3:Nat)=3/\_=bT d 3/16%1024/\_=bT d 3/16/1024/\_
  rw[JQ];dsimp only;omega
 ·rw[ah (by decide),ai rfl]
  show(4:Nat)=4/\_=bT d 4/16%16384/\_=bT d 4/16/16384/\_
  rw[IY];dsimp only;omega
 ·rw[ai rfl];show(5:Nat)=5/\_=bT d 5/16%262144/\_=bT d 5/16/262144/\_
  rw[KE];dsimp only;omega
def ql (T:jR):Prop:=T.most<=11/\∀q,q<2^T.most->T.tab q<65536
theorem uB {w:Nat->Nat} {c:Nat} {T:jR} (y:c<=255) (h:d_ w c=some T):ql T:=by
 unfold d_ at h
 split at h
 ·cases h
 rename_i h1
 dsimp only at h
 split at h
 ·cases h
 rename_i h2
 split at h
 ·cases h
 rename_i k
 have k:=not_or.1 k
 cases h
 have j:∀i,i<c->w i<=11:=fun i hi=>Nat.le_of_not_lt fun h=>h1 (List.any_eq_true.2 ⟨i,List.mem_range.2 hi,decide_eq_true h⟩)
 obtain⟨p,g⟩:=ux (hg:=Nat.log2 (2^(Nat.log2 (aM w c 11)+1)-aM w c 11)) j rfl (Decidable.not_not.1 k.2) h2
 refine⟨by dsimp only;omega,fun q l=>?_⟩
 dsimp only at l ⊢
 obtain⟨i,t,i2,u,r⟩:=gq (old:=fun _=>0) g l
 rw[r]
 omega
theorem Av {n k:Nat} {T:jR} (hd:∀i,d i<256) (h:kR d n=some (T,k)):ql T/\k<=n:=by
 unfold kR at h
 by_cases h0:n=0
 ·rw[ai h0] at h;cases h
 rw[ah h0] at h
 dsimp only at h
 by_cases g:d 0<128
 ·simp only[ai g] at h
  split at h
  ·cases h
  cases hW:pv (aX d 1) (d 0) with
  | none=>rw[hW] at h;cases h
  | some r =>
   obtain⟨w,c⟩:=r;rw[hW] at h;obtain⟨t,l,j⟩:=Option.map_eq_some_iff.1 h;cases j;exact⟨uB (Ha hW) l,aa⟩
 ·simp only[ah g] at h
  split at h
  ·cases h
  obtain⟨t,l,j⟩:=Option.map_eq_some_iff.1 h;cases j;exact⟨uB (by have:=hd 0;omega) l,aa⟩
abbrev SB.wTr (x:SB) (p:Option Addr):SB:={ x with tr:=p }
def JB (G:ao) (sb:Nat) (x:SB) (r:Ve ((Nat×(Nat->Nat)×Nat)×Option jR)) (v:Value) (m:ao):Prop:=match r with
 | .op=>∃g l h y,v = .tuple #[.slice g l h,.int .i64 y,.int .i64 0]
 | .wr=>∃g l h y,v = .tuple #[.slice g l h,.int .i64 y,.int .i64 2]
 | .ok ((K,L,k),t)=>∃g h p i j,v = .tuple #[.slice g K h,ay k,.int .i64 1]/\m=(sb,dW (x.wTr p))::(i++j)/\sX t p i/\aU (j++G) g K h L
structure KF where
 t:Option jR
 p:Option Addr
 tm:ao
 k:Nat
 da:Option Addr
 dc:Nat
 j:ao
def IC (d:Nat->Nat) (h size i g:Nat) (t:Option jR) (k:Nat):Ve ((Nat×(Nat->Nat)×Nat)×Option jR):=match t with
 | none=>.wr
 | some t=>if 131072<i\/i=0 then .op else(jX t (aX d (h+k)) (size-k) i (decide (g≠0))).bind fun L=>.ok ((i,L,h+size),some t)
set_option maxHeartbeats 1000000 in
theorem yS (sb:Nat) (x:SB) (tr:Option jR) (O:ao) (hT:sX tr x.tr O) (ca:∀T,tr=some T->ql T) (da:Option Addr) (N cp:Nat) (hd:∀i,d i<256) (Y:aU G da N cp d) (hN:N<=2^30) :
  av Tryz.prog G 51 #[bf sb,.slice da N cp] ((sb,dW x)::O) (JB G sb x (lX tr d N)):=by
 refine bE Tryz.func51 fun c0 h0 hex=>?_
 obtain⟨E,u⟩:∃E,E=lX tr d N:=⟨_,rfl⟩
 rw[<- u]
 unfold lX at u
 refine go ?_
 refine ac rfl (fun hz=>?_) (fun hz=>?_)
 ·rw[ai aa] at u;subst u;refine go ?_;exact af (bx [4,5,6] ⟨_,_,_,_,rfl⟩)
 rw[ah aa] at u
 obtain⟨b0,o0,rfl⟩:=Y.some aa
 have dt:=hd 0
 obtain⟨g,hg⟩:∃g,g=d 0/4%4:=⟨_,rfl⟩
 have ab:g<4:=aa
 dsimp only at u
 rw[<- hg] at u
 refine go ?_
 rw[show d 0/2^2%4=g by rw[hg]]
 refine ac rfl (fun ce=>?_) (fun ce=>?_)
 ·rw[ai aa] at u;refine go ?_;refine au (z:=.int .i64 0) (vs:=[.int .i64 1,.int .i64 2,.int .i64 1,.int .i64 3]) rfl rfl z3 rfl rfl rfl rfl hex fun lb c5=>?_
  refine bj (m':=(lb,BZ 1 2 1 3)::(sb,dW x)::O) (.cons (by rw[D9];rfl) (.refl _)) ?_
  refine go ?_;refine aF (v:=.int .i64 (tF 1 2 1 3 g:Nat)) rfl rfl .here (Hb _ _ _ _ _ ab) (D_ _ _ _ _ _ ab) rfl ?_
  obtain⟨h,hh⟩:∃h,h=if g=1 then 2 else if g=3 then 3 else 1:=⟨_,rfl⟩
  rw[show tF 1 2 1 3 g=h by rw[hh];unfold tF;split<;>(try split)<;>(try split)<;>(try split)<;>omega]
  rw[<- hh] at u;have c4:h<=3:=by rw[hh];split<;>(try split)<;>omega
  refine go ?_;refine ac rfl (fun a8=>?_) (fun a8=>?_)
  ·rw[ai aa] at u;subst u;refine go ?_;exact af (bx [4,5,6] ⟨_,_,_,_,rfl⟩)
  rw[ah aa] at u;refine fW ?_;dsimp only[fE];refine dk ?_;refine jy (qs:=[39]) [0,1,2,5,3,4,6,7,8,9] rfl (by kernel_rfl) ?_
  refine go ?_;refine fu h Y rfl rfl rfl rfl rfl (by have:=Y.le;omega) rfl ?_
  have cs:=hd 1
  have c8:=hd 2
  obtain⟨V,hV⟩:∃V,V=bT d h:=⟨_,rfl⟩
  have a0:V<2^24:=by rw[hV];exact Nat.lt_of_lt_of_le (gV hd h) (Nat.pow_le_pow_right aa aa)
  refine go ?_;refine aA (i_ (n:=h) (x:=d) hd ((Y.cut (h:=h) aa).mono fun p hp=>List.mem_append.2 (.inr hp)) (by rw[<- hV];omega) aa) ?_
  rw[<- hV];refine go ?_;refine au (z:=.int .i64 0) (vs:=[.int .i64 3,.int .i64 4,.int .i64 3,.int .i64 4]) rfl rfl z3 rfl rfl rfl rfl hex fun mb d2=>?_
  refine bj (m':=(mb,BZ 3 4 3 4)::(lb,BZ 1 2 1 3)::(sb,dW x)::O) (.cons (by rw[D9];rfl) (.refl _)) ?_
  refine go ?_;refine aF (v:=.int .i64 (tF 3 4 3 4 g:Nat)) rfl rfl .here (Hb _ _ _ _ _ ab) (D_ _ _ _ _ _ ab) rfl ?_
  have dm:tF 3 4 3 4 g<=4:=by unfold tF;split<;>(try split)<;>(try split)<;>omega
  obtain⟨K,hK⟩:∃K,K=V/2^tF 3 4 3 4 g:=⟨_,rfl⟩
  have cS:K<2^24:=by rw[hK];exact Nat.lt_of_le_of_lt (Nat.div_le_self _ _) a0
  have bv:(if g=1 then d 0/16+d 1*16 else if g=3 then d 0/16+d 1*16+d 2*4096 else d 0/8)=K:=by
   rw[hK,hV,hh];by_cases g1:g=1
   ·rw[ai g1,ai g1,g1,D8];show _=(d 0+d 1*256)/16;omega
   by_cases g3:g=3
   ·rw[ah g1,ai g3,ah g1,ai g3,g3,JQ];show _=(d 0+d 1*256+d 2*65536)/16;omega
   ·rw[ah g1,ah g3,ah g1,ah g3,Kd];have:tF 3 4 3 4 g=3:=by unfold tF;split<;>(try split)<;>(try split)<;>omega
    rw[this]
  rw[bv] at u;refine go ?_;rw[<- hK];clear bv hK a0 hV;refine ac rfl (fun b6=>?_) (fun cq=>?_)
  ·rw[ai aa] at u;subst u;refine go ?_;exact af (bx [4,5,6] ⟨_,_,_,_,rfl⟩)
  rw[ah aa] at u;refine go ?_;refine ac rfl (fun c3=>?_) (fun c6=>?_)
  ·rw[ai aa] at u;refine go ?_;refine ac rfl (fun M=>?_) (fun M=>?_)
   ·rw[ai aa] at u;subst u;refine go ?_;exact af (bx [4,5,6] ⟨_,_,_,_,rfl⟩)
   rw[ah aa] at u;have c1:=hd h
   refine go ?_;refine gm (len:=K) (cap:=K) rfl rfl rfl rfl z5 (by decide) (aZ _) aa hex rfl fun nb cN=>?_
   refine go ?_;refine aH (σ:=Nat×(Nat->Value)) [] (fun t=>[(1,.slice (some ⟨b0,o0,none⟩) N cp),(9,ay h),(11,.slice (bi nb) K K),(69,ay K),(70,ay t.1)]) (fun t=>(nb,⟨K*(0+1),t.2,5,(0,0)⟩)::(mb,BZ 3 4 3 4)::(lb,BZ 1 2 1 3)::(sb,dW x)::O) (fun t=>t.1<=K/\∀i,i<t.1->t.2 i = .int .u8 (d h:Nat)) (fun t=>K-t.1) (0,_) (.refl _) ⟨Nat.zero_le _,fun i hi=>absurd hi (Nat.not_lt_zero _)⟩ ?_
   rintro⟨i,y⟩ f ⟨hi,hy⟩;dsimp only at hi hy ⊢;refine go ?_;refine ac rfl (fun cu=>?_) (fun ds=>?_)
   ·refine go ?_;refine bD (v:=.int .u8 (d h:Nat)) rfl rfl rfl rfl .here (by show 0+i<K*(0+1);omega) rfl hex ?_
    refine go ?_;refine⟨(i+1,gK y (0+i) (.int .u8 (d h:Nat))),by dsimp only;omega,⟨by dsimp only;omega,fun j hj=>?_⟩,cF,.refl _⟩
    dsimp only at hj ⊢;by_cases he:j=0+i
    ·rw[he,cG]
    ·rw[aT _ _ _ _ he];exact hy j aa
   ·obtain rfl:i=K:=aa;refine go ?_;refine af ?_;rw[u];exact ag [4,5,6] (post:=(sb,dW x)::(O++[(nb,⟨i*(0+1),y,5,(0,0)⟩)])) (junk:=[(mb,BZ 3 4 3 4),(lb,BZ 1 2 1 3)]) ⟨_,_,x.tr,O,_,rfl,rfl,hT,⟨aZ _,.inr ⟨nb,0,_,rfl,List.mem_append.2 (.inl List.mem_cons_self),fun _=>by show 0+i<=i*(0+1);omega,fun j hj=>by show y (0+j)=_;rw[Nat.zero_add];exact hy j hj⟩⟩⟩ rfl (.of_perm an)
  ·rw[ah aa] at u;refine go ?_;refine ac rfl (fun M=>?_) (fun M=>?_)
   ·rw[ai aa] at u;subst u;refine go ?_;exact af (bx [4,5,6] ⟨_,_,_,_,rfl⟩)
   rw[ah aa] at u;refine go ?_;refine cT h (h+K) Y rfl rfl rfl rfl rfl rfl rfl aa (by have:=Y.le;omega) rfl ?_
   rw[Nat.add_sub_cancel_left];have b1:=Y.sub (l:=h) (h:=h+K) aa aa
   rw[Nat.add_sub_cancel_left] at b1;refine go ?_;refine af ?_;rw[u];exact ag [4,5,6] (post:=(sb,dW x)::O) (junk:=[(mb,BZ 3 4 3 4),(lb,BZ 1 2 1 3)]) ⟨_,_,x.tr,O,[],rfl,by rw[List.append_nil],hT,b1⟩ rfl (.of_perm an)
 ·rw[ah aa] at u;refine fW ?_;dsimp only[fE];refine dk ?_;obtain⟨h,hh⟩:∃h,h=(di d).1:=⟨_,rfl⟩
  obtain⟨wd,am⟩:∃wd,wd=tF 10 10 14 18 g:=⟨_,rfl⟩
  have a2:tF 3 3 4 5 g=h:=by
   rw[hh];unfold di tF;dsimp only;rw[<- hg];split<;>(try split)<;>(try split)<;>(try split)<;>first|rfl|omega
  have I:=JA 3 3 4 5 g ab
  have J:=JA 10 10 14 18 g ab
  rw[a2] at I;rw[<- am] at J;refine bp (σ:=ao) [] (fun _=>[(0,bf sb),(1,.slice (some ⟨b0,o0,none⟩) N cp),(7,.int .i64 (d 0%4:Nat)),(8,ay g),(13,ay h),(14,ay wd),(172,undef),(173,undef)]) (fun j=>((sb,dW x)::O)++j) (fun _=>True) ?_ ?_
  ·refine bZ (m':=((sb,dW x)::O)++[]) (.of_perm an) ?_
   refine nu mixed_ok (qs:=qsT) [] 0 511 [1,5] (.fk [] 0 4 (.fk [0,2] 3 4 (.fin [3,8,4,6,7] [9]) (.fk [4,6] 3 7 (.fin [3,8,7] [9]) (.fin [7,3,8] [9]))) (.fk [4,6] 7 0 (.fin [7,0,2,3,8] [9]) (.fk [0,2] 7 3 (.fin [7,3,8] [9]) (.fin [3,8,7] [9])))) rfl (by kernel_rfl) ?_
   refine go ?_;refine⟨rfl,_,rfl,?_⟩
   refine kt ⟨?_,?_⟩
   ·refine⟨_,rfl,?_⟩
    refine go ?_;refine au (z:=.int .i64 0) (vs:=[.int .i64 3,.int .i64 3,.int .i64 4,.int .i64 5]) rfl rfl z3 rfl rfl rfl rfl hex fun xb _=>?_
    refine go ?_;refine⟨?_,?_⟩
    ·refine⟨_,_,rfl,rfl,?_⟩
     refine go ?_;refine aF (v:=ay h) rfl rfl .here (by show 0+g<4;omega) I rfl ?_
     refine go ?_;refine au (z:=.int .i64 0) (vs:=[.int .i64 10,.int .i64 10,.int .i64 14,.int .i64 18]) rfl rfl z3 rfl rfl rfl rfl hex fun yb _=>?_
     refine go ?_;refine aF (v:=ay wd) rfl rfl .here (by show 0+g<4;omega) J rfl ?_
     refine go ?_;exact⟨[(yb,aj [.int .i64 10,.int .i64 10,.int .i64 14,.int .i64 18] 3),(xb,aj [.int .i64 3,.int .i64 3,.int .i64 4,.int .i64 5] 3)],trivial,cF,.of_perm an⟩
    ·refine⟨_,rfl,?_⟩
     refine go ?_;refine au (z:=.int .i64 0) (vs:=[.int .i64 10,.int .i64 10,.int .i64 14,.int .i64 18]) rfl rfl z3 rfl rfl rfl rfl hex fun yb _=>?_
     refine go ?_;refine⟨?_,?_⟩
     ·refine⟨_,_,rfl,rfl,?_⟩
      refine go ?_;refine aF (v:=ay h) rfl rfl (.there .here) (by show 0+g<4;omega) I rfl ?_
      refine go ?_;refine aF (v:=ay wd) rfl rfl .here (by show 0+g<4;omega) J rfl ?_
      refine go ?_;exact⟨[(yb,aj [.int .i64 10,.int .i64 10,.int .i64 14,.int .i64 18] 3),(xb,aj [.int .i64 3,.int .i64 3,.int .i64 4,.int .i64 5] 3)],trivial,cF,.of_perm an⟩
     ·refine⟨_,_,rfl,rfl,?_⟩
      refine go ?_;refine aF (v:=ay wd) rfl rfl .here (by show 0+g<4;omega) J rfl ?_
      refine go ?_;refine aF (v:=ay h) rfl rfl (.there .here) (by show 0+g<4;omega) I rfl ?_
      refine go ?_;exact⟨[(yb,aj [.int .i64 10,.int .i64 10,.int .i64 14,.int .i64 18] 3),(xb,aj [.int .i64 3,.int .i64 3,.int .i64 4,.int .i64 5] 3)],trivial,cF,.of_perm an⟩
   ·refine⟨_,rfl,?_⟩
    refine go ?_;refine au (z:=.int .i64 0) (vs:=[.int .i64 10,.int .i64 10,.int .i64 14,.int .i64 18]) rfl rfl z3 rfl rfl rfl rfl hex fun yb _=>?_
    refine go ?_;refine⟨?_,?_⟩
    ·refine⟨_,_,rfl,rfl,?_⟩
     refine go ?_;refine aF (v:=ay wd) rfl rfl .here (by show 0+g<4;omega) J rfl ?_
     refine go ?_;refine au (z:=.int .i64 0) (vs:=[.int .i64 3,.int .i64 3,.int .i64 4,.int .i64 5]) rfl rfl z3 rfl rfl rfl rfl hex fun xb _=>?_
     refine go ?_;refine aF (v:=ay h) rfl rfl .here (by show 0+g<4;omega) I rfl ?_
     refine go ?_;exact⟨[(xb,aj [.int .i64 3,.int .i64 3,.int .i64 4,.int .i64 5] 3),(yb,aj [.int .i64 10,.int .i64 10,.int .i64 14,.int .i64 18] 3)],trivial,cF,.of_perm an⟩
    ·refine⟨_,rfl,?_⟩
     refine go ?_;refine au (z:=.int .i64 0) (vs:=[.int .i64 3,.int .i64 3,.int .i64 4,.int .i64 5]) rfl rfl z3 rfl rfl rfl rfl hex fun xb _=>?_
     refine go ?_;refine⟨?_,?_⟩
     ·refine⟨_,_,rfl,rfl,?_⟩
      refine go ?_;refine aF (v:=ay wd) rfl rfl (.there .here) (by show 0+g<4;omega) J rfl ?_
      refine go ?_;refine aF (v:=ay h) rfl rfl .here (by show 0+g<4;omega) I rfl ?_
      refine go ?_;exact⟨[(xb,aj [.int .i64 3,.int .i64 3,.int .i64 4,.int .i64 5] 3),(yb,aj [.int .i64 10,.int .i64 10,.int .i64 14,.int .i64 18] 3)],trivial,cF,.of_perm an⟩
     ·refine⟨_,_,rfl,rfl,?_⟩
      refine go ?_;refine aF (v:=ay h) rfl rfl .here (by show 0+g<4;omega) I rfl ?_
      refine go ?_;refine aF (v:=ay wd) rfl rfl (.there .here) (by show 0+g<4;omega) J rfl ?_
      refine go ?_;exact⟨[(xb,aj [.int .i64 3,.int .i64 3,.int .i64 4,.int .i64 5] 3),(yb,aj [.int .i64 10,.int .i64 10,.int .i64 14,.int .i64 18] 3)],trivial,cF,.of_perm an⟩
  intro j f _;refine go ?_;obtain⟨q1,q2,q3,q4⟩:=IB hd hg;rw[a2] at q2 q3;obtain⟨many,W⟩:∃many,many=(di d).2.1:=⟨_,rfl⟩
  obtain⟨size,H⟩:∃size,size=(di d).2.2:=⟨_,rfl⟩
  rw[<- hh,<- W,<- H] at u;rw[<- W,<- am] at q2;rw[<- H,<- am] at q3;rw[<- H] at q4;have cw:h<=5:=by rw[<- a2];unfold tF;split<;>(try split)<;>(try split)<;>omega
  have aw:wd<=18:=by rw[am];unfold tF;split<;>(try split)<;>(try split)<;>omega
  clear a2 hh W H q1;refine ac rfl (fun a8=>?_) (fun a8=>?_)
  ·rw[ai aa] at u;subst u;refine go ?_;exact af (bx [4,5,6] ⟨_,_,_,_,rfl⟩)
  rw[ah aa] at u;refine go ?_;refine fu h Y rfl rfl rfl rfl rfl (by have:=Y.le;omega) rfl ?_
  refine go ?_;obtain⟨V,hV⟩:∃V,V=bT d h:=⟨_,rfl⟩
  have a0:V<2^40:=by rw[hV];exact Nat.lt_of_lt_of_le (gV hd h) (Nat.pow_le_pow_right aa aa)
  have bq:zL G (some ⟨b0,o0,none⟩) h cp d:=⟨(Y.cut (h:=h) aa).le,(Y.cut (h:=h) aa).is⟩
  refine ar (gj _ h cp d hd bq (by rw[<- hV];omega) aa) ?_ (fm:=(sb,dW x)::O++j) (hs:=.of_perm an)
  rintro v m ⟨rfl,rfl⟩;rw[List.append_nil];rw[<- hV] at q2 q3 ⊢;clear hV;have bu:2^wd<=2^18:=Nat.pow_le_pow_right aa aw
  have a5:=Nat.two_pow_pos wd
  have b9:1*2^wd<2^63:=aa
  have q2:many=V/2^4%2^wd:=q2
  have q3:size=V/2^4/2^wd:=q3
  refine go ?_;have b7:(V/2^4&&&1*2^wd-1)=many:=by rw[Nat.one_mul,Nat.and_two_pow_sub_one_eq_mod,q2]
  rw[<- q3,b7];have c7:many<2^18:=by rw[q2];exact Nat.lt_of_lt_of_le (Nat.mod_lt _ a5) bu
  clear q2 q3 b7 a0 bu a5 b9 I J am aw bq;refine go ?_;refine ac rfl (fun M=>?_) (fun M=>?_)
  ·rw[ai aa] at u;subst u;refine go ?_;exact af (bx [4,5,6] ⟨_,_,_,_,rfl⟩)
  rw[ah aa] at u;refine go ?_;refine cT h (h+size) Y rfl rfl rfl rfl rfl rfl rfl aa (by have:=Y.le;omega) rfl ?_
  have U:=Y.sub (l:=h) (h:=h+size) aa aa
  rw[Nat.add_sub_cancel_left] at U ⊢;obtain⟨ad,a4⟩:∃ad,ad=ek (some ⟨b0,o0,none⟩) h cp:=⟨_,rfl⟩
  rw[<- a4] at U ⊢;clear a4;refine go ?_;refine bp (σ:=KF) [] (fun t=>[(0,bf sb),(8,ay g),(13,ay h),(16,ay many),(17,ay size),(18,.slice t.da (size-t.k) t.dc),(172,undef),(173,undef)]) (fun t=>(sb,dW (x.wTr t.p))::(t.tm++t.j))
   (fun t=>aU G t.da (size-t.k) t.dc (aX d (h+t.k))/\sX t.t t.p t.tm/\(∀T,t.t=some T->ql T)/\E=IC d h size many g t.t t.k) ?_ ?_
  ·refine ac rfl (fun hk=>?_) (fun hk=>?_)
   ·rw[ai aa] at u;refine go ?_;refine ar (D5 (d:=aX d h) ad size (cp-h) (fun i=>hd _) U aa) ?_ (fm:=(sb,dW x)::(O++j)) (hs:=.of_perm an)
    cases hS:kR (aX d h) size with
    | none =>
     rw[hS] at u;rintro v m ⟨z1,rfl⟩;subst u;refine go ?_;exact af (bx [4,5,6] ⟨_,_,_,_,rfl⟩)
    | some r =>
     obtain⟨T,k⟩:=r;rw[hS] at u;rintro v m ⟨p,rfl,bt⟩;have a7:=bt
     obtain⟨pb,sa,sc,ba,bc,sm,bm,rfl,rfl,b2,a1⟩:=a7;refine bj (m':=(pb,lY sa sc ba bc (2^T.most) T.most)::(sb,dW x)::(sm++(bm++(O++j)))) (.of_perm an) ?_
     have dl:=Nat.two_pow_pos T.most
     obtain⟨dE,bs⟩:=Av (d:=aX d h) (fun i=>hd _) hS
     rcases a1 with⟨_,b3,_⟩|⟨bb,bo,cr,BB,cm,rfl,bd,br,be,b5⟩
     ·omega
     cases cm;have a1:dH 1 (.slice (some ⟨bb,bo,none⟩) (2^T.most) bc) (2^T.most) (rh T) [(bb,BB)]:=.inr ⟨bb,bo,bc,BB,rfl,rfl,bd,br,be,b5⟩
     have b3:bo+0<BB.n:=aa
     have a3:=dE.1
     have c2:T.tab 0%256<256:=Nat.mod_lt _ (by decide)
     clear br bd be;refine go ?_;refine aK (v:=.int .i64 ((T.tab 0%256:Nat):Int)) rfl rfl (B:=BB) (b:=bb) (by simp) b3 (b5 0 aa) rfl ?_
     refine go ?_;have ax:E=(if T.tab 0%256<T.most then .op else IC d h size many g (some T) k):=by
      rw[u];show Ve.bind (ite _ _ _) _=_
      split<;>rfl
     refine ac rfl (fun cn=>?_) (fun cb=>?_)
     ·rw[ai aa] at ax;subst ax;refine go ?_;exact af (bx [4,5,6] ⟨_,_,_,_,rfl⟩)
     rw[ah aa] at ax;clear u;have ch:aU G (ek ad k (cp-h)) (size-k) (cp-h-k) (aX d (h+k)):=by
      have:=U.sub (l:=k) (h:=size) bs (aZ _)
      rwa[show(fun i=>(fun i=>d (h+i)) (k+i))=aX d (h+k) from funext fun i=>by unfold aX;rw[Nat.add_assoc]] at this
     refine go ?_;refine cT k size U rfl rfl rfl rfl rfl rfl rfl bs U.le rfl ?_
     refine go ?_;exact⟨⟨some T,some ⟨pb,0,none⟩,(pb,lY sa sc (some ⟨bb,bo,none⟩) bc (2^T.most) T.most)::(sm++[(bb,BB)]),k,ek ad k (cp-h),cp-h-k,O++j⟩,⟨ch,bt,fun T' h'=>by cases h';exact dE,ax⟩,cF,.trans (.skip (.cons (aW (B':=dW (x.wTr (bi pb))) rfl rfl rfl rfl) (.refl _))) (.of_perm an)⟩
   ·rw[ah aa] at u;refine go ?_;exact⟨⟨tr,x.tr,O,0,ad,cp-h,j⟩,⟨U,hT,ca,u.trans (by cases tr<;>rfl)⟩,cF,.cons rfl (.refl _)⟩
  rintro⟨t,p,d0,k,cl,cd,j3⟩ f ⟨b4,al,a6,C⟩;dsimp only at b4 al a6 C ⊢;clear u
  cases t with
  | none =>
   obtain⟨rfl,rfl⟩:=al;subst C;refine go ?_;refine Ap (r:=true) rfl rfl rfl rfl rfl ?_
   refine go ?_;exact af (bx [4,5,6] ⟨_,_,_,_,rfl⟩)
  | some T =>
   have a7:=al
   obtain⟨pb,sa,sc,ba,bc,sm,bm,rfl,rfl,b2,a1⟩:=a7;unfold IC at C;have C:E=(if 131072<many\/many=0 then .op else(jX T (aX d (h+k)) (size-k) many (decide (g≠0))).bind fun L=>.ok ((many,L,h+size),some T)):=C
   refine go ?_;refine Ap (r:=false) rfl rfl rfl rfl rfl ?_
   refine go ?_;refine aJ 171 rfl (fun b6=>?_) (fun b8=>?_)
   ·rw[ai (.inl aa)] at C;subst C;refine go ?_;exact af (bx [4,5,6] ⟨_,_,_,_,rfl⟩)
   refine go ?_;refine ac rfl (fun cx=>?_) (fun d1=>?_)
   ·rw[ai (.inr aa)] at C;subst C;refine go ?_;exact af (bx [4,5,6] ⟨_,_,_,_,rfl⟩)
   rw[ah aa] at C;obtain⟨a3,ho⟩:=a6 T rfl;obtain⟨F,hF⟩:∃F:ao,F=(pb,lY sa sc ba bc (2^T.most) T.most)::(sm++bm):=⟨_,rfl⟩
   have cc:D6 (F++G) T pb sa sc ba bc:=by
    rw[hF];exact⟨by simp,(kV (z:=fun q=>((T.tab q/256:Nat):Int)) b2).mono fun p hp=>by simp[hp],(kV (z:=fun q=>((T.tab q%256:Nat):Int)) a1).mono fun p hp=>by simp[hp],a3,ho⟩
   rw[<- hF] at al ⊢;have a9:decide ((g:Int)≠0)=decide (g≠0):=decide_eq_decide.2 aa
   refine go ?_;refine ar (av.freeze (fm:=F) (BX (d:=aX d (h+k)) T pb sa sc ba bc cc cl (size-k) cd (fun i=>hd _) (b4.mono fun p hp=>List.mem_append.2 (.inr hp)) aa many aa ((g:Int)≠0))) ?_ (fm:=(sb,dW (x.wTr (bi pb)))::j3) (hs:=.of_perm an)
   rw[a9]
   cases hS:jX T (aX d (h+k)) (size-k) many (decide (g≠0)) with
   | op =>
    rw[hS] at C;rintro v m ⟨m0,rfl,rfl⟩;subst C;refine go ?_;exact af (bx [4,5,6] ⟨_,_,_,_,rfl⟩)
   | wr =>
    rw[hS] at C;rintro v m ⟨m0,rfl,rfl⟩;subst C;refine go ?_;exact af (bx [4,5,6] ⟨_,_,_,_,rfl⟩)
   | ok L =>
    rw[hS] at C;rintro v m ⟨m0,⟨ra,rc,rfl,hL⟩,rfl⟩;subst C;refine go ?_;exact af (ii [4,5,6] ((sb,dW (x.wTr (bi pb)))::(F++m0)) ⟨ra,rc,some ⟨pb,0,none⟩,F,m0,rfl,rfl,al,(b_ hL).mono fun p hp=>List.mem_append.2 (.inl hp)⟩)
end Go.Proofs.YtogmacnlpclgkaaGreatDoor
namespace Go.Proofs.YtogmacnlpclgkaaGreatDoor
open Go Go.Eng Go.Pz
attribute [local irreducible] RO J av aO
set_option maxRecDepth 20000
variable {G:ao} {d:Nat->Nat}
def SB.tp (x:SB) (k:Nat):Option Addr:=if k=0 then x.t0 else if k=1 then x.t1 else x.t2
def SB.wT (x:SB) (k:Nat) (p:Option Addr):SB:=if k=0 then{ x with t0:=p } else if k=1 then{ x with t1:=p } else{ x with t2:=p }
theorem vO (x:SB) {k:Nat} (h:k<=2):(dW x).g (0+4+k) = .pointer (x.tp k):=by
 match k,h with
 | 0,_=>rfl
 | 1,_=>rfl
 | 2,_=>rfl
theorem ID (x:SB) {k:Nat} (h:k<=2) (p:Option Addr):((dW x).st (0+4+k) (.pointer p)).obj=(dW (x.wT k p)).obj:=by
 match k,h with
 | 0,_=>exact aW rfl rfl rfl rfl
 | 1,_=>exact aW rfl rfl rfl rfl
 | 2,_=>exact aW rfl rfl rfl rfl
theorem oz (x:SB) {k:Nat} (h:k<=2):0+4+k<(dW x).n:=by show 0+4+k<10;omega
def Ke (sb:Nat) (x:SB) (kind:Nat) (r:Option (dV×Nat)) (v:Value) (m:ao):Prop:=match r with
 | none=>∃y:Int,v = .tuple #[.int .i64 y,.bool false]
 | some (T,k)=>v = .tuple #[ay k,.bool true]/\∃p g,m=(sb,dW (x.wT kind p))::g/\vH (some T) p g
set_option maxHeartbeats 1000000 in
theorem Gl (sb:Nat) (x:SB) (kind mode:Nat) (j:kind<=2) (hm:mode<=3) (t:Option dV) (tk:ao) (F:vH t (x.tp kind) tk) (J:Option Addr) (N M:Nat) (hd:∀i,d i<256) (V:aU G J N M d) (hN:N<=2^30) :
  av Tryz.prog G 52 #[bf sb,ay kind,ay mode,.slice J N M] ((sb,dW x)::tk) (Ke sb x kind (xx t kind mode d N)):=by
 refine bE Tryz.func52 fun c0 h0 hex=>?_
 obtain⟨E,g⟩:∃E,E=xx t kind mode d N:=⟨_,rfl⟩
 rw[<- g]
 unfold xx at g
 refine go ?_
 refine ar (IA kind j) ?_ (fm:=(sb,dW x)::tk) (hs:=.of_perm an)
 rintro v m ⟨rfl,rfl⟩
 rw[List.append_nil]
 have u:=fun p=>ID x j p
 have W:dF kind<=52:=by unfold dF;split<;>(try split)<;>omega
 have B:dD kind<=9:=by unfold dD;split<;>omega
 refine go ?_
 refine ac rfl (fun m0=>?_) (fun m0=>?_)
 ·rw[ai aa] at g;subst g;refine dk ?_;refine jy (qs:=qsT) [0,1,2,4,5,3,6,7] rfl (by kernel_rfl) ?_
  refine go ?_;refine ar (Gi kind j) ?_ (fm:=(sb,dW x)::tk) (hs:=.of_perm an)
  rintro v m ⟨p,rfl,k⟩;refine go ?_;refine bD (v:=.pointer p) rfl rfl rfl rfl .here (oz x j) rfl hex ?_
  refine bj (m':=(sb,dW (x.wT kind p))::(tk++m)) (.cons (u p) (.refl _)) ?_
  refine go ?_;exact af (ii [8,9] ((sb,dW (x.wT kind p))::m) ⟨rfl,p,m,rfl,k⟩)
 rw[ah aa] at g
 refine go ?_
 refine ac rfl (fun m1=>?_) (fun m1=>?_)
 ·rw[ai aa] at g;refine go ?_;refine aJ 38 rfl (fun hz=>?_) (fun hz=>?_)
  ·rw[ai (.inl aa)] at g;subst g;refine go ?_;exact af (bx [8,9] ⟨_,rfl⟩)
  obtain⟨b0,o0,rfl⟩:=V.some aa;have am:=hd 0
  refine go ?_;refine ac rfl (fun U=>?_) (fun O=>?_)
  ·rw[ai (.inr aa)] at g;subst g;refine go ?_;exact af (bx [8,9] ⟨_,rfl⟩)
  rw[ah aa] at g;subst g;refine go ?_;refine ar (DW (d 0)) ?_ (fm:=(sb,dW x)::tk) (hs:=.of_perm an)
  rintro v m ⟨tb,h,rfl,rfl,l⟩;refine go ?_;refine aC z128 rfl hex fun pb H=>?_
  refine go ?_;refine ak (s:=1) (vs:=[.slice (bi tb) 1 1,.int .i64 0]) rfl rfl rfl rfl (cC rfl) .here (aZ 2) rfl hex ?_
  refine bj (m':=(pb,ir tb 1 0)::(sb,dW x)::(tk++[(tb,h)])) ci ?_
  refine go ?_;refine bD (v:=bf pb) rfl rfl rfl rfl (.there .here) (oz x j) rfl hex ?_
  refine bj (m':=(pb,ir tb 1 0)::(sb,dW (x.wT kind (bi pb)))::(tk++[(tb,h)])) (.skip (.cons (u _) (.refl _))) ?_
  refine go ?_;exact af (ii [8,9] ((sb,dW (x.wT kind (bi pb)))::[(pb,ir tb 1 0),(tb,h)]) ⟨rfl,_,_,rfl,pb,tb,h,rfl,rfl,l⟩)
 rw[ah aa] at g
 refine go ?_
 refine ac rfl (fun Y=>?_) (fun Y=>?_)
 ·rw[ai aa] at g;refine go ?_;refine ar (Ak J N M hd V aa (dD kind) (dF kind) B aa) ?_ (fm:=(sb,dW x)::tk) (hs:=.of_perm an)
  cases hP:eI false d N (dD kind) (dF kind) 0 with
  | none =>
   rw[hP] at g;subst g;rintro v m rfl;refine go ?_;exact af (bx [8,9] ⟨_,rfl⟩)
  | some r =>
   obtain⟨log,sh,c,q⟩:=r;rw[hP] at g;replace g:E=some (Ix sh c log,(q+7)/8):=g
   subst g;rintro v K ⟨out,rfl,y⟩;obtain⟨sa,sc,rfl⟩:=bV y;obtain⟨_,hq,ad,al,hc,_,hF⟩:=kq aa hP;refine go ?_;refine ar (av.freeze (fm:=K) (qg sa c sc sh ((kV y).mono fun p k=>List.mem_append.2 (.inl k)) log hF aa aa)) ?_ (fm:=(sb,dW x)::tk) (hs:=.of_perm an)
   rintro v m ⟨mx,⟨tb,h,rfl,rfl,l⟩,rfl⟩;refine go ?_;refine aC z128 rfl hex fun pb H=>?_
   refine go ?_;refine ak (s:=1) (vs:=[.slice (bi tb) (2^log) (2^log),ay log]) rfl rfl rfl rfl (cC rfl) .here (aZ 2) rfl hex ?_
   refine bj (m':=(pb,ir tb (2^log) log)::(sb,dW x)::(tk++((tb,h)::K))) ci ?_
   refine go ?_;refine bD (v:=bf pb) rfl rfl rfl rfl (.there .here) (oz x j) rfl hex ?_
   refine bj (m':=(pb,ir tb (2^log) log)::(sb,dW (x.wT kind (bi pb)))::(tk++((tb,h)::K))) (.skip (.cons (u _) (.refl _))) ?_
   refine go ?_;exact af (ii [8,9] ((sb,dW (x.wT kind (bi pb)))::[(pb,ir tb (2^log) log),(tb,h)]) ⟨rfl,_,_,rfl,pb,tb,h,rfl,rfl,l⟩)
 ·obtain rfl:mode=3:=aa;rw[ah aa] at g;refine go ?_;refine aF (v:=.pointer (x.tp kind)) rfl rfl .here (oz x j) (vO x j) rfl ?_
  refine go ?_
  cases t with
  | none =>
   obtain⟨k,rfl⟩:=F;rw[k];subst g;refine Aq (r:=false) rfl rfl rfl rfl rfl ?_
   refine go ?_;exact af (bx [8,9] ⟨_,rfl⟩)
  | some T =>
   have I:=F
   obtain⟨pb,tb,h,k,ab,_⟩:=I;have C:x=x.wT kind (x.tp kind):=by
    unfold SB.wT SB.tp
    split
    ·rfl
    split<;>rfl
   rw[k] at F C;rw[k];subst g;refine Aq (r:=true) rfl rfl rfl rfl rfl ?_
   refine go ?_;exact af (ii [8,9] ((sb,dW x)::tk) ⟨rfl,some ⟨pb,0,none⟩,tk,by rw[<- C],F⟩)
end Go.Proofs.YtogmacnlpclgkaaGreatDoor
