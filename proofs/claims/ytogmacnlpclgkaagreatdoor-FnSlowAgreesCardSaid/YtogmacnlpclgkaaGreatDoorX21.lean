/- Texts 21. -/
import Derived.Test.YtogmacnlpclgkaaGreatDoorX20
set_option linter.all false
namespace Go.Proofs.YtogmacnlpclgkaaGreatDoor
open Go Go.Eng Go.Pz
attribute [local irreducible] RO J av aO
set_option maxRecDepth 20000
variable {G:ao} {d:Nat->Nat}
theorem H3 (S:bN G) (k:Nat) (x:Int) (s:RS) (da:Option Addr) (n cp:Nat) (hd:∀i,d i<256) (hv:aU G da n cp d) (hn:n<=2^20) (e:CE) (V:Option Addr) (W:Nat) (D:Nat->Nat) (sm z fm:ao) (hl:nd (.slice V 0 W) 0 D sm) (u:JO s.ht e.hb e.ht z) (Y:s.hb=e.hb) (y:Bt s.fs fm) :
  av Tryz.prog G 94 #[bf k,.slice da n cp,ay 0,.slice V 0 W] ((k,az x s)::(z++(fm++sm))) (yy S k x s sm (lits e d n)):=by
 refine bE Tryz.func94 fun c h0 hex=>?_
 have B:s=(s.wHuf s.ht e.hb).wFs s.fs:=by rw[<- Y]
 refine go ?_
 refine ac rfl (fun ab=>?_) (fun p=>?_)
 ·have C:lits e d n=(e,none):=by unfold lits;rw[ai aa]
  refine go ?_;refine ae (eZ S k x s _) ?_
  rintro v m ⟨⟨b',rfl⟩,rfl⟩;refine go ?_;refine af ?_;refine ag [8,9,10] (post:=(k,az x s)::(z++(fm++sm))) ?_
  rw[C];exact⟨s.ht,z,s.fs,fm,u,y,_,sm,rfl,.inl ⟨b',rfl⟩,Kp.refl _,by rw[<- B]⟩
 have M:0<n:=aa
 obtain⟨b0,z0,rfl⟩:=hv.some M
 obtain⟨hdr,t⟩:∃hdr,hdr=d 0:=⟨_,rfl⟩
 have hh:=hd 0
 rw[<- t] at hh
 refine go ?_
 rw[<- t]
 refine go ?_
 refine aJ 28 rfl (fun h0=>?_) (fun h0=>?_)
 ·subst t;have C:lits e d n=(e,ia d n):=by unfold lits;rw[ah aa,ai aa]
  refine go ?_;refine ae (xg S k x s _ n cp hd hv hn M aa V W D sm hl) ?_ (hs:=.of_perm (List.Perm.cons _ (by rw[<- List.append_assoc];exact List.perm_append_comm)))
  rintro v m j
  cases hY:ia d n with
  | none =>
   rw[hY] at j;obtain⟨O,g,rfl,U,l,rfl⟩:=j;have h:yy S k x s sm (lits e d n) (.tuple #[.int .i64 0,.slice none 0 0,O]) ((k,az x s)::(z++(fm++g))):=by
    rw[C];exact⟨_,_,_,_,u,y,by dsimp only;rw[hY];exact⟨O,g,rfl,U,l,by rw[<- B]⟩⟩
   rcases U with⟨b',rfl⟩|rfl
   ·refine go ?_;exact af (cE [8,9,10] (((k,az x s)::(z++(fm++g)))) (junk:=[]) h (by rw[List.append_nil];exact .of_perm (List.Perm.cons _ (by rw[<- List.append_assoc];exact List.perm_append_comm))))
   ·unfold bN.ueofV at h ⊢
    refine go ?_;exact af (cE [8,9,10] (((k,az x s)::(z++(fm++g)))) (junk:=[]) h (by rw[List.append_nil];exact .of_perm (List.Perm.cons _ (by rw[<- List.append_assoc];exact List.perm_append_comm))))
  | some r =>
   obtain⟨o,K,L⟩:=r;rw[hY] at j;obtain⟨v',g,q,rfl,p,l,rfl⟩:=j;obtain⟨oa,oc,rfl⟩:=p.form;refine go ?_;refine af ?_;refine ag [8,9,10] (post:=((k,az x s)::(z++(fm++(g++q))))) (junk:=[]) ?_ rfl (by rw[List.append_nil];exact .of_perm (List.Perm.cons _ (by rw[<- List.append_assoc];exact List.perm_append_comm)))
   rw[C];exact⟨_,_,_,_,u,y,by dsimp only;rw[hY];exact⟨_,g,q,rfl,p,l,by rw[<- B]⟩⟩
 refine go ?_
 refine ac rfl (fun h1=>?_) (fun h1=>?_)
 ·subst t;have C:lits e d n=(e,ia d n):=by unfold lits;rw[ah aa,ai aa]
  refine go ?_;refine ae (xg S k x s _ n cp hd hv hn M aa V W D sm hl) ?_ (hs:=.of_perm (List.Perm.cons _ (by rw[<- List.append_assoc];exact List.perm_append_comm)))
  rintro v m j
  cases hY:ia d n with
  | none =>
   rw[hY] at j;obtain⟨O,g,rfl,U,l,rfl⟩:=j;have h:yy S k x s sm (lits e d n) (.tuple #[.int .i64 0,.slice none 0 0,O]) ((k,az x s)::(z++(fm++g))):=by
    rw[C];exact⟨_,_,_,_,u,y,by dsimp only;rw[hY];exact⟨O,g,rfl,U,l,by rw[<- B]⟩⟩
   rcases U with⟨b',rfl⟩|rfl
   ·refine go ?_;exact af (cE [8,9,10] (((k,az x s)::(z++(fm++g)))) (junk:=[]) h (by rw[List.append_nil];exact .of_perm (List.Perm.cons _ (by rw[<- List.append_assoc];exact List.perm_append_comm))))
   ·unfold bN.ueofV at h ⊢
    refine go ?_;exact af (cE [8,9,10] (((k,az x s)::(z++(fm++g)))) (junk:=[]) h (by rw[List.append_nil];exact .of_perm (List.Perm.cons _ (by rw[<- List.append_assoc];exact List.perm_append_comm))))
  | some r =>
   obtain⟨o,K,L⟩:=r;rw[hY] at j;obtain⟨v',g,q,rfl,p,l,rfl⟩:=j;obtain⟨oa,oc,rfl⟩:=p.form;refine go ?_;refine af ?_;refine ag [8,9,10] (post:=((k,az x s)::(z++(fm++(g++q))))) (junk:=[]) ?_ rfl (by rw[List.append_nil];exact .of_perm (List.Perm.cons _ (by rw[<- List.append_assoc];exact List.perm_append_comm)))
   rw[C];exact⟨_,_,_,_,u,y,by dsimp only;rw[hY];exact⟨_,g,q,rfl,p,l,by rw[<- B]⟩⟩
 ·subst t;have C:lits e d n=eJ e d n:=by unfold lits;rw[ah aa,ah aa]
  refine go ?_;refine ae (Ds S k x s _ n cp hd hv hn M e aa V W D sm z fm hl u Y y) ?_ (fm:=[]) (hs:=by rw[List.append_nil];exact .refl _)
  rintro v m ⟨J,F,I,H,w1,w2,j⟩
  cases hY:(eJ e d n).2 with
  | none =>
   rw[hY] at j;obtain⟨O,g,rfl,U,l,rfl⟩:=j;have h:yy S k x s sm (lits e d n) (.tuple #[.int .i64 0,.slice none 0 0,O]) ((k,az x ((s.wHuf J (eJ e d n).1.hb).wFs I))::(F++(H++g))):=by
    rw[C];exact⟨_,_,_,_,w1,w2,by rw[hY];exact⟨O,g,rfl,U,l,rfl⟩⟩
   rcases U with⟨b',rfl⟩|rfl
   ·refine go ?_;exact af (ii [8,9,10] (((k,az x ((s.wHuf J (eJ e d n).1.hb).wFs I))::(F++(H++g)))) h)
   ·unfold bN.ueofV at h ⊢
    refine go ?_;exact af (ii [8,9,10] (((k,az x ((s.wHuf J (eJ e d n).1.hb).wFs I))::(F++(H++g)))) h)
  | some r =>
   obtain⟨o,K,L⟩:=r;rw[hY] at j;obtain⟨v',g,q,rfl,p,l,rfl⟩:=j;obtain⟨oa,oc,rfl⟩:=p.form;refine go ?_;refine af ?_;refine ag [8,9,10] (post:=((k,az x ((s.wHuf J (eJ e d n).1.hb).wFs I))::(F++(H++(g++q))))) (junk:=[]) ?_ rfl (.refl _)
   rw[C];exact⟨_,_,_,_,w1,w2,by rw[hY];exact⟨_,g,q,rfl,p,l,rfl⟩⟩
def H4 (g:Nat->Value) (L:Nat) (h bt i:Nat->Nat):Prop:=∀p,p<L->g (p*3) = .int .u8 (h p:Nat)/\g (p*3+1) = .int .u8 (bt p:Nat)/\g (p*3+2) = .int .u16 (i p:Nat)
def gi (c:sI):List Value:=[.int .u32 (c.base:Nat),.int .u8 (c.more:Nat),.int .u8 (c.bits:Nat),.int .u16 (c.next:Nat)]
def v7 (g:Nat->Value) (L:Nat) (c:Nat->sI):Prop:=∀p,p<L->∀j,j<4->g (p*4+j)=ct (gi (c p)) j
theorem H5 {g:Nat->Value} {o:Nat} {a b c:Value} (h0:g o=a) (i:g (o+1)=b) (h:g (o+2)=c):(ej (2+1) fun j=>g (o+j))=[a,b,c]:=by
 show[g (o+0),g (o+1),g (o+2)]=_
 rw[Nat.add_zero,h0,i,h]
theorem v7.snoc {g:Nat->Value} {i o:Nat} {c:Nat->sI} (h:v7 g i c) (r:o=i*4):v7 (cQ g o (3+1) (ct (gi (c i)))) (i+1) c:=fun p q j k=>by
 by_cases l:p=i
 ·rw[bH _ _ _ _ _ aa aa,l];congr 1;omega
 ·rw[aP _ _ _ _ _ aa];exact h p aa j k
structure H6 where
 i:Nat
 g:Nat->Value
 jk:ao
theorem FG (S:bN G) (q B y:Nat) (x:Int) (s:RS) (off:Int) (L fc bc:Nat) (r k:bk) (j bt l:Nat->Nat) (hF:H4 r.g L j bt l) (am:L*3<=r.n) (a1:L*4<=k.n) (C:k.fr=(0,0)) (hL:L<=512) (lW:∀p,p<L->j p<256) (K:∀p,p<L->bt p<256/\l p<65536)
  (h:(∀p,p<L->j p<=31)\/0<L/\31<j 0) :
  av Tryz.prog G 120 #[bf q,.int .i64 off,.slice (bi B) L fc,.slice (bi y) L bc] [(q,az x s),(B,r),(y,k)] (fun v m =>
   if 0<L/\31<j 0 then dM S .z v/\m=[(q,az x s),(B,r),(y,k)]
   else v = .nilIface/\∃g,v7 g L (fun p=>cX 1 (j p) (bt p) (l p))/\m=[(q,az x s),(B,r),(y,⟨k.n,g,k.T,(0,0)⟩)]):=by
 refine bE Tryz.func120 fun c h0 hex=>?_
 refine go ?_
 refine aH (σ:=H6) [0,1,3,12,13] (fun t=>[(14,ay t.i)]) (fun t=>(q,az x s)::(B,r)::(y,⟨k.n,t.g,k.T,(0,0)⟩)::t.jk) (fun t=>t.i<=L/\v7 t.g t.i (fun p=>cX 1 (j p) (bt p) (l p))/\(t.i=0->t.g=k.g)/\(0<t.i->j 0<=31)) (fun t=>L-t.i) ⟨0,k.g,[]⟩
  (.skip (.skip (.cons (by unfold bk.obj;rw[C];rfl) .nil))) ⟨Nat.zero_le _,fun p hp=>absurd hp (Nat.not_lt_zero _),fun _=>rfl,fun h=>absurd h (Nat.not_lt_zero _)⟩ ?_
 rintro⟨i,g,jk⟩ f ⟨hi,hg,F,u⟩
 dsimp only at hi hg F u ⊢
 refine go ?_
 refine ac rfl (fun al=>?_) (fun ab=>?_)
 ·obtain⟨f1,f2,f3⟩:=hF i aa;have a0:=lW i aa
  have aw:=K i aa
  refine go ?_;refine cz (s:=2) rfl rfl rfl (.there .here) aa rfl ?_
  rw[H5 (a:=.int .u8 (j i:Nat)) (b:=.int .u8 (bt i:Nat)) (c:=.int .u16 (l i:Nat)) (by rw[<- f1];congr 1;omega) (by rw[<- f2];congr 1;omega) (by rw[<- f3];congr 1;omega)]
  refine go ?_;refine aC z211 rfl hex fun M a3=>?_
  refine go ?_;refine ak (s:=2) (vs:=[.int .u8 (j i:Nat),.int .u8 (bt i:Nat),.int .u16 (l i:Nat)]) rfl rfl rfl rfl (cC rfl) .here (aZ 3) rfl hex ?_
  refine go ?_;refine bU (vs:=[.int .u32 0,.int .u8 0,.int .u8 (bt i:Nat),.int .u16 (l i:Nat)]) rfl rfl z198 rfl rfl rfl rfl ?_
  refine go ?_;refine aC z198 rfl hex fun O ad=>?_
  refine go ?_;refine ak (s:=3) (vs:=[.int .u32 0,.int .u8 0,.int .u8 (bt i:Nat),.int .u16 (l i:Nat)]) rfl rfl rfl rfl (cC rfl) .here (aZ 4) rfl hex ?_
  refine go ?_;refine ac rfl (fun Y=>?_) (fun a2=>?_)
  ·have V:0<L/\31<j 0:=by
    rcases h with h|h
    ·have:=h i aa;omega
    ·exact h
   have H:i=0:=by
    rcases Nat.eq_zero_or_pos i with h|h
    ·exact h
    ·have:=u h;omega
   rw[F H] at *
   refine go ?_;refine ae (c_ S q x s _ _) ?_
   rintro v m ⟨⟨b',rfl⟩,rfl⟩;refine go ?_;exact af (cE [8] ([(q,az x s),(B,r),(y,k)]) (junk:=(O,_)::(M,_)::jk) (by rw[ai V];exact⟨⟨b',rfl⟩,rfl⟩) (.skip (.trans (.of_perm (pA [_,_] [_,_] jk)) (.skip (.cons (by unfold bk.obj;rw[C];rfl) (.refl _))))))
  ·have W:2^j i<=2^31:=Nat.pow_le_pow_right aa aa
   refine go ?_;refine bp (σ:=Nat) [0,1,3,9,10,11,12,13,14] (fun _=>[]) (fun b=>(O,aj [.int .u32 (b:Nat),.int .u8 0,.int .u8 (bt i:Nat),.int .u16 (l i:Nat)] 198)::(M,aj [.int .u8 (j i:Nat),.int .u8 (bt i:Nat),.int .u16 (l i:Nat)] 211)::(q,az x s)::(B,r)::(y,⟨k.n,g,k.T,(0,0)⟩)::jk) (fun b=>b=(cg 1 (j i)).1) ?_ ?_
   ·have I:(cg 1 (j i)).1=2^j i-(if 2<=j i then 3 else 0):=rfl
    refine ac rfl (fun h2=>?_) (fun h2=>?_)
    ·have ax:2^2<=2^j i:=Nat.pow_le_pow_right aa aa
     refine go ?_;refine⟨1*2^j i-3,by rw[I,ai aa,Nat.one_mul],joined (.cons dT ci)⟩
    ·refine go ?_;refine⟨1*2^j i,by rw[I,ah aa,Nat.one_mul,Nat.sub_zero],joined (.cons dT ci)⟩
   ·rintro _ f rfl;refine go ?_;refine cz (s:=3) rfl rfl rfl .here (aZ 4) rfl ?_
    refine go ?_;refine ak (s:=3) (vs:=gi (cX 1 (j i) (bt i) (l i))) rfl rfl rfl rfl (fun v U=>by unfold gi at U;simp only[List.mem_cons,List.not_mem_nil,or_false] at U;rcases U with rfl|rfl|rfl|rfl<;>rfl) (.there (.there (.there (.there .here)))) (by show 0+i*(3+1)+(3+1)<=k.n;omega) rfl hex ?_
    refine go ?_;refine⟨⟨i+1,cQ g (0+i*(3+1)) (3+1) (ct (gi (cX 1 (j i) (bt i) (l i)))),(O,_)::(M,_)::jk⟩,by dsimp only;omega,⟨by dsimp only;omega,v7.snoc (c:=fun p=>cX 1 (j p) (bt p) (l p)) hg aa,fun h=>absurd h (Nat.succ_ne_zero _),fun _=>?_⟩,cF,.of_perm (pA [_,_] [_,_,_] jk)⟩
    by_cases h0:i=0
    ·rw[<- h0];omega
    ·exact u aa
 ·refine go ?_;refine af ?_;have J:¬(0<L/\31<j 0):=fun h=>by have:=u aa;omega
  obtain rfl:i=L:=aa;exact ag [8] (post:=[(q,az x s),(B,r),(y,⟨k.n,g,k.T,(0,0)⟩)]) (junk:=jk) (by rw[ah J];exact⟨rfl,g,hg,rfl⟩) rfl (.refl _)
def ij (G:ao) (gid:Nat) (l:List (Nat×Nat)):Prop:=∃h k lo p j,(gid,h)∈G/\0<h.n/\h.g 0 = .slice (some ⟨k,lo,none⟩) l.length p/\(k,j)∈G/\lo+l.length<=j.n/\∀i,i<l.length->j.g (lo+i) = .int .u32 (((l.getD i (0,0)).1+(l.getD i (0,0)).2*16777216:Nat):Int)
theorem FH:∀i,i<20->(fA.getD i (0,0)).1<16777216/\(fA.getD i (0,0)).2<32:=by decide
theorem FI:∀i,i<21->(fB.getD i (0,0)).1<16777216/\(fB.getD i (0,0)).2<32:=by decide
theorem FJ (S:bN G) (hB:ij G 4 fA) (q y B:Nat) (x:Int) (s:RS) (off:Int) (L fc bc:Nat) (u k:bk) (j bt l:Nat->Nat) (hF:H4 u.g L j bt l) (aw:L*3<=u.n) (a1:L*4<=k.n) (C:k.fr=(0,0)) (hL:L<=512) (lW:∀p,p<L->j p<256) (K:∀p,p<L->bt p<256/\l p<65536)
  (h:(∀p,p<L->j p<=35)\/0<L/\35<j 0) :
  av Tryz.prog G 118 #[bf q,.int .i64 off,.slice (bi y) L fc,.slice (bi B) L bc] [(q,az x s),(y,u),(B,k)] (fun v m =>
   if 0<L/\35<j 0 then dM S .z v/\m=[(q,az x s),(y,u),(B,k)]
   else v = .nilIface/\∃g,v7 g L (fun p=>cX 0 (j p) (bt p) (l p))/\m=[(q,az x s),(y,u),(B,⟨k.n,g,k.T,(0,0)⟩)]):=by
 refine bE Tryz.func118 fun c h0 hex=>?_
 obtain⟨B1,lb,lo,lc,B2,g1,g2,g3,g4,g5,g6⟩:=hB
 refine go ?_
 refine aH (σ:=H6) [0,1,3,14,15] (fun t=>[(16,ay t.i)]) (fun t=>(q,az x s)::(y,u)::(B,⟨k.n,t.g,k.T,(0,0)⟩)::t.jk) (fun t=>t.i<=L/\v7 t.g t.i (fun p=>cX 0 (j p) (bt p) (l p))/\(t.i=0->t.g=k.g)/\(0<t.i->j 0<=35)) (fun t=>L-t.i) ⟨0,k.g,[]⟩
  (.skip (.skip (.cons (by unfold bk.obj;rw[C];rfl) .nil))) ⟨Nat.zero_le _,fun p hp=>absurd hp (Nat.not_lt_zero _),fun _=>rfl,fun h=>absurd h (Nat.not_lt_zero _)⟩ ?_
 rintro⟨i,g,jk⟩ f ⟨hi,hg,F,r⟩
 dsimp only at hi hg F r ⊢
 refine go ?_
 refine ac rfl (fun a5=>?_) (fun a3=>?_)
 ·obtain⟨f1,f2,f3⟩:=hF i aa;have a0:=lW i aa
  have ax:=K i aa
  refine go ?_;refine cz (s:=2) rfl rfl rfl (.there .here) aa rfl ?_
  rw[H5 (a:=.int .u8 (j i:Nat)) (b:=.int .u8 (bt i:Nat)) (c:=.int .u16 (l i:Nat)) (by rw[<- f1];congr 1;omega) (by rw[<- f2];congr 1;omega) (by rw[<- f3];congr 1;omega)]
  refine go ?_;refine aC z211 rfl hex fun V a6=>?_
  refine go ?_;refine ak (s:=2) (vs:=[.int .u8 (j i:Nat),.int .u8 (bt i:Nat),.int .u16 (l i:Nat)]) rfl rfl rfl rfl (cC rfl) .here (aZ 3) rfl hex ?_
  refine go ?_;refine bU (vs:=[.int .u32 0,.int .u8 0,.int .u8 (bt i:Nat),.int .u16 (l i:Nat)]) rfl rfl z198 rfl rfl rfl rfl ?_
  refine go ?_;refine aC z198 rfl hex fun W a4=>?_
  refine go ?_;refine ak (s:=3) (vs:=[.int .u32 0,.int .u8 0,.int .u8 (bt i:Nat),.int .u16 (l i:Nat)]) rfl rfl rfl rfl (cC rfl) .here (aZ 4) rfl hex ?_
  refine go ?_;refine bp (σ:=Nat×Nat) [0,1,3,9,11,14,15,16] (fun _=>[]) (fun t=>(W,aj [.int .u32 (t.1:Nat),.int .u8 (t.2:Nat),.int .u8 (bt i:Nat),.int .u16 (l i:Nat)] 198)::(V,aj [.int .u8 (j i:Nat),.int .u8 (bt i:Nat),.int .u16 (l i:Nat)] 211)::(q,az x s)::(y,u)::(B,⟨k.n,g,k.T,(0,0)⟩)::jk) (fun t=>t=cg 0 (j i)/\j i<=35) ?_ ?_
  ·refine ac rfl (fun ad=>?_) (fun Y=>?_)
   ·refine go ?_;refine⟨(j i,0),⟨(ai aa:(if j i<16 then(j i,0) else fA.getD (j i-16) (0,0))=_).symm,aa⟩,joined (.cons dT ci)⟩
   ·refine go ?_;refine ac rfl (fun al=>?_) (fun a2=>?_)
    ·have ab:0<L/\35<j 0:=by
      rcases h with h|h
      ·have:=h i aa;omega
      ·exact h
     have H:i=0:=by
      rcases Nat.eq_zero_or_pos i with h|h
      ·exact h
      ·have:=r h;omega
     rw[F H] at *
     refine go ?_;refine ae (c_ S q x s _ _) ?_
     rintro v m ⟨⟨b',rfl⟩,rfl⟩;refine go ?_;exact af (cE [8] ([(q,az x s),(y,u),(B,k)]) (junk:=(W,_)::(V,_)::jk) (by rw[ai ab];exact⟨⟨b',rfl⟩,rfl⟩) (.skip (.trans (.of_perm (pA [_,_] [_,_] jk)) (.skip (.cons (by unfold bk.obj;rw[C];rfl) (.refl _))))))
    ·have hlen:fA.length=20:=rfl
     have fT:=g6 (j i-16) aa
     have I:=FH (j i-16) aa
     have hq:cg 0 (j i)=fA.getD (j i-16) (0,0):=(ah aa:(if j i<16 then(j i,0) else fA.getD (j i-16) (0,0))=_)
     rw[hlen] at g3 g5;obtain⟨⟨a,J⟩,U⟩:∃t,t=fA.getD (j i-16) (0,0):=⟨_,rfl⟩
     rw[<- U] at fT I hq;dsimp only at fT I;refine go ?_;refine aK rfl rfl (List.mem_append.2 (.inr g1)) g2 g3 rfl ?_
     refine go ?_;refine aK rfl rfl (List.mem_append.2 (.inr g4)) aa fT rfl ?_
     refine go ?_;rw[show(a+J*16777216)%16777216=a from aa,show(a+J*16777216)/2^24=J from aa];refine⟨(a,J),⟨hq.symm,aa⟩,joined (.cons dT ci)⟩
  ·rintro _ f ⟨rfl,am⟩;refine go ?_;refine cz (s:=3) rfl rfl rfl .here (aZ 4) rfl ?_
   refine go ?_;refine ak (s:=3) (vs:=gi (cX 0 (j i) (bt i) (l i))) rfl rfl rfl rfl (fun v M=>by unfold gi at M;simp only[List.mem_cons,List.not_mem_nil,or_false] at M;rcases M with rfl|rfl|rfl|rfl<;>rfl) (.there (.there (.there (.there .here)))) (by show 0+i*(3+1)+(3+1)<=k.n;omega) rfl hex ?_
   refine go ?_;refine⟨⟨i+1,cQ g (0+i*(3+1)) (3+1) (ct (gi (cX 0 (j i) (bt i) (l i)))),(W,_)::(V,_)::jk⟩,by dsimp only;omega,⟨by dsimp only;omega,v7.snoc (c:=fun p=>cX 0 (j p) (bt p) (l p)) hg aa,fun h=>absurd h (Nat.succ_ne_zero _),fun _=>?_⟩,cF,.of_perm (pA [_,_] [_,_,_] jk)⟩
   by_cases h0:i=0
   ·rw[<- h0];omega
   ·exact r aa
 ·refine go ?_;refine af ?_;have O:¬(0<L/\35<j 0):=fun h=>by have:=r aa;omega
  obtain rfl:i=L:=aa;exact ag [8] (post:=[(q,az x s),(y,u),(B,⟨k.n,g,k.T,(0,0)⟩)]) (junk:=jk) (by rw[ah O];exact⟨rfl,g,hg,rfl⟩) rfl (.refl _)
theorem FK (S:bN G) (hB:ij G 5 fB) (q y B:Nat) (x:Int) (s:RS) (off:Int) (L fc bc:Nat) (u k:bk) (j bt l:Nat->Nat) (hF:H4 u.g L j bt l) (aw:L*3<=u.n) (a1:L*4<=k.n) (C:k.fr=(0,0)) (hL:L<=512) (lW:∀p,p<L->j p<256) (K:∀p,p<L->bt p<256/\l p<65536)
  (h:(∀p,p<L->j p<=52)\/0<L/\52<j 0) :
  av Tryz.prog G 122 #[bf q,.int .i64 off,.slice (bi y) L fc,.slice (bi B) L bc] [(q,az x s),(y,u),(B,k)] (fun v m =>
   if 0<L/\52<j 0 then dM S .z v/\m=[(q,az x s),(y,u),(B,k)]
   else v = .nilIface/\∃g,v7 g L (fun p=>cX 2 (j p) (bt p) (l p))/\m=[(q,az x s),(y,u),(B,⟨k.n,g,k.T,(0,0)⟩)]):=by
 refine bE Tryz.func122 fun c h0 hex=>?_
 obtain⟨B1,lb,lo,lc,B2,g1,g2,g3,g4,g5,g6⟩:=hB
 refine go ?_
 refine aH (σ:=H6) [0,1,3,14,15] (fun t=>[(16,ay t.i)]) (fun t=>(q,az x s)::(y,u)::(B,⟨k.n,t.g,k.T,(0,0)⟩)::t.jk) (fun t=>t.i<=L/\v7 t.g t.i (fun p=>cX 2 (j p) (bt p) (l p))/\(t.i=0->t.g=k.g)/\(0<t.i->j 0<=52)) (fun t=>L-t.i) ⟨0,k.g,[]⟩
  (.skip (.skip (.cons (by unfold bk.obj;rw[C];rfl) .nil))) ⟨Nat.zero_le _,fun p hp=>absurd hp (Nat.not_lt_zero _),fun _=>rfl,fun h=>absurd h (Nat.not_lt_zero _)⟩ ?_
 rintro⟨i,g,jk⟩ f ⟨hi,hg,F,r⟩
 dsimp only at hi hg F r ⊢
 refine go ?_
 refine ac rfl (fun a5=>?_) (fun a3=>?_)
 ·obtain⟨f1,f2,f3⟩:=hF i aa;have a0:=lW i aa
  have ax:=K i aa
  refine go ?_;refine cz (s:=2) rfl rfl rfl (.there .here) aa rfl ?_
  rw[H5 (a:=.int .u8 (j i:Nat)) (b:=.int .u8 (bt i:Nat)) (c:=.int .u16 (l i:Nat)) (by rw[<- f1];congr 1;omega) (by rw[<- f2];congr 1;omega) (by rw[<- f3];congr 1;omega)]
  refine go ?_;refine aC z211 rfl hex fun V a6=>?_
  refine go ?_;refine ak (s:=2) (vs:=[.int .u8 (j i:Nat),.int .u8 (bt i:Nat),.int .u16 (l i:Nat)]) rfl rfl rfl rfl (cC rfl) .here (aZ 3) rfl hex ?_
  refine go ?_;refine bU (vs:=[.int .u32 0,.int .u8 0,.int .u8 (bt i:Nat),.int .u16 (l i:Nat)]) rfl rfl z198 rfl rfl rfl rfl ?_
  refine go ?_;refine aC z198 rfl hex fun W a4=>?_
  refine go ?_;refine ak (s:=3) (vs:=[.int .u32 0,.int .u8 0,.int .u8 (bt i:Nat),.int .u16 (l i:Nat)]) rfl rfl rfl rfl (cC rfl) .here (aZ 4) rfl hex ?_
  refine go ?_;refine bp (σ:=Nat×Nat) [0,1,3,9,11,14,15,16] (fun _=>[]) (fun t=>(W,aj [.int .u32 (t.1:Nat),.int .u8 (t.2:Nat),.int .u8 (bt i:Nat),.int .u16 (l i:Nat)] 198)::(V,aj [.int .u8 (j i:Nat),.int .u8 (bt i:Nat),.int .u16 (l i:Nat)] 211)::(q,az x s)::(y,u)::(B,⟨k.n,g,k.T,(0,0)⟩)::jk) (fun t=>t=cg 2 (j i)/\j i<=52) ?_ ?_
  ·refine ac rfl (fun ad=>?_) (fun Y=>?_)
   ·refine go ?_;refine⟨(j i+3,0),⟨(ai aa:(if j i<32 then(j i+3,0) else fB.getD (j i-32) (0,0))=_).symm,aa⟩,joined (.cons dT ci)⟩
   ·refine go ?_;refine ac rfl (fun al=>?_) (fun a2=>?_)
    ·have ab:0<L/\52<j 0:=by
      rcases h with h|h
      ·have:=h i aa;omega
      ·exact h
     have H:i=0:=by
      rcases Nat.eq_zero_or_pos i with h|h
      ·exact h
      ·have:=r h;omega
     rw[F H] at *
     refine go ?_;refine ae (c_ S q x s _ _) ?_
     rintro v m ⟨⟨b',rfl⟩,rfl⟩;refine go ?_;exact af (cE [8] ([(q,az x s),(y,u),(B,k)]) (junk:=(W,_)::(V,_)::jk) (by rw[ai ab];exact⟨⟨b',rfl⟩,rfl⟩) (.skip (.trans (.of_perm (pA [_,_] [_,_] jk)) (.skip (.cons (by unfold bk.obj;rw[C];rfl) (.refl _))))))
    ·have hlen:fB.length=21:=rfl
     have fT:=g6 (j i-32) aa
     have I:=FI (j i-32) aa
     have hq:cg 2 (j i)=fB.getD (j i-32) (0,0):=(ah aa:(if j i<32 then(j i+3,0) else fB.getD (j i-32) (0,0))=_)
     rw[hlen] at g3 g5;obtain⟨⟨a,J⟩,U⟩:∃t,t=fB.getD (j i-32) (0,0):=⟨_,rfl⟩
     rw[<- U] at fT I hq;dsimp only at fT I;refine go ?_;refine aK rfl rfl (List.mem_append.2 (.inr g1)) g2 g3 rfl ?_
     refine go ?_;refine aK rfl rfl (List.mem_append.2 (.inr g4)) aa fT rfl ?_
     refine go ?_;rw[show(a+J*16777216)%16777216=a from aa,show(a+J*16777216)/2^24=J from aa];refine⟨(a,J),⟨hq.symm,aa⟩,joined (.cons dT ci)⟩
  ·rintro _ f ⟨rfl,am⟩;refine go ?_;refine cz (s:=3) rfl rfl rfl .here (aZ 4) rfl ?_
   refine go ?_;refine ak (s:=3) (vs:=gi (cX 2 (j i) (bt i) (l i))) rfl rfl rfl rfl (fun v M=>by unfold gi at M;simp only[List.mem_cons,List.not_mem_nil,or_false] at M;rcases M with rfl|rfl|rfl|rfl<;>rfl) (.there (.there (.there (.there .here)))) (by show 0+i*(3+1)+(3+1)<=k.n;omega) rfl hex ?_
   refine go ?_;refine⟨⟨i+1,cQ g (0+i*(3+1)) (3+1) (ct (gi (cX 2 (j i) (bt i) (l i)))),(W,_)::(V,_)::jk⟩,by dsimp only;omega,⟨by dsimp only;omega,v7.snoc (c:=fun p=>cX 2 (j p) (bt p) (l p)) hg aa,fun h=>absurd h (Nat.succ_ne_zero _),fun _=>?_⟩,cF,.of_perm (pA [_,_] [_,_,_] jk)⟩
   by_cases h0:i=0
   ·rw[<- h0];omega
   ·exact r aa
 ·refine go ?_;refine af ?_;have O:¬(0<L/\52<j 0):=fun h=>by have:=r aa;omega
  obtain rfl:i=L:=aa;exact ag [8] (post:=[(q,az x s),(y,u),(B,⟨k.n,g,k.T,(0,0)⟩)]) (junk:=jk) (by rw[ah O];exact⟨rfl,g,hg,rfl⟩) rfl (.refl _)
end Go.Proofs.YtogmacnlpclgkaaGreatDoor
namespace Go.Eng
open Go
def Bu:Nat->List (List Value)->List (Nat×Value)
 | _,[]=>[]
 | k,a::r=>(k,.agg a.toArray)::Bu (k+1) r
theorem xk (off:Nat):∀(a:List Value) (k:Nat) (X:Array Value),off+k+a.length<=X.size ->
  ((a.zipIdx k).foldl (fun cs (x:Value×Nat)=>cs.setIfInBounds (off+x.2) x.1) X).size=X.size /\
  ∀i,((a.zipIdx k).foldl (fun cs (x:Value×Nat)=>cs.setIfInBounds (off+x.2) x.1) X)[i]? = if off+k<=i/\i<off+k+a.length then a[i-(off+k)]? else X[i]?
 | [],k,X,_=>⟨rfl,fun i=>by
   simp only[List.zipIdx_nil,List.foldl_nil,List.length_nil]
   rw[ah aa]⟩
 | v::a,k,X,h=>by
  simp only[List.length_cons] at h
  obtain⟨l,j⟩:=xk off a (k+1) (X.setIfInBounds (off+k) v) (by rw[Array.size_setIfInBounds];omega)
  simp only[List.zipIdx_cons,List.foldl_cons,List.length_cons]
  refine⟨by rw[l];simp,fun i=>?_⟩
  rw[j i];by_cases hi:i=off+k
  ·subst hi;rw[ah aa,ai aa];rw[Nat.sub_self,List.getElem?_cons_zero,Array.getElem?_setIfInBounds_self_of_lt aa]
  ·by_cases g:off+(k+1)<=i/\i<off+(k+1)+a.length
   ·rw[ai g,ai aa,show i-(off+k)=(i-(off+(k+1)))+1 from aa,List.getElem?_cons_succ]
   ·rw[ah g,ah aa,Array.getElem?_setIfInBounds_ne aa]
theorem sK (s:Nat):∀(g:List (List Value)) (k:Nat) (X:Array Value),(∀a∈g,a.length=s)->X.size=(k+g.length)*s ->
  ∃Y,Instr.fill (fun i=>some (i*s,s)) X (Bu k g)=some Y/\Y.size=X.size/\∀i,Y[i]? = if k*s<=i then g.flatten[i-k*s]? else X[i]?
 | [],k,X,_,hX=>⟨X,rfl,rfl,fun i=>by
   by_cases h:k*s<=i
   ·rw[ai h,Array.getElem?_eq_none (by simp only[List.length_nil,Nat.add_zero] at hX;omega)];simp
   ·rw[ah h]⟩
 | a::r,k,X,ha,hX=>by
  have j:=ha a List.mem_cons_self
  have y:(k+(a::r).length)*s=k*s+s+r.length*s:=by simp only[List.length_cons];rw[show k+(r.length+1)=k+1+r.length from aa,Nat.add_mul,Nat.add_mul,Nat.one_mul]
  obtain⟨f1,f2⟩:=xk (k*s) a 0 X aa
  obtain⟨Y,p,A,q⟩:=sK s r (k+1) ((a.zipIdx 0).foldl (fun cs (x:Value×Nat)=>cs.setIfInBounds (k*s+x.2) x.1) X) (fun b hb=>ha b (List.mem_cons_of_mem _ hb)) (by rw[f1,hX,y,show k+1+r.length=k+1+r.length from rfl,Nat.add_mul,Nat.add_mul,Nat.one_mul])
  refine⟨Y,?_,by rw[A,f1],fun i=>?_⟩
  ·rw[Bu];unfold Instr.fill
   have t:((Value.agg a.toArray).cells.size≠s||decide (k*s+(Value.agg a.toArray).cells.size>X.size))=false:=by
    have z:(Value.agg a.toArray).cells.size=s:=j
    rw[z,Bool.or_eq_false_iff];exact⟨decide_eq_false (fun h=>h rfl),decide_eq_false aa⟩
   show(if(((Value.agg a.toArray).cells.size≠s||decide (k*s+(Value.agg a.toArray).cells.size>X.size))=true) then none else Instr.fill (fun i=>some (i*s,s)) ((Value.agg a.toArray).cells.zipIdx.foldl (fun cs (x:Value×Nat)=>cs.setIfInBounds (k*s+x.2) x.1) X) (Bu (k+1) r))=some Y
   rw[t,ah (by decide),<- p]
   congr 1
   show a.toArray.zipIdx.foldl _ X=_
   simp
  ·rw[q i];have u:(k+1)*s=k*s+s:=by rw[Nat.add_mul,Nat.one_mul]
   rw[u,List.flatten_cons];by_cases h:k*s+s<=i
   ·rw[ai h,ai aa,List.getElem?_append_right aa,j]
    congr 1;omega
   ·rw[ah h,f2 i,Nat.add_zero];by_cases l:k*s<=i
    ·rw[ai aa,ai l,List.getElem?_append_left aa]
    ·rw[ah aa,ah l]
section
variable {P:Program} [ty:bA P] {G:ao} {qs:List FuncId} {c:World} {n:Nat} {h0:dx} {ops:Array Oper} {Q:Fr->ao->Prop} {rest:List Oper} {f:Fr} {m:ao}
variable {d:Option Tmp} {T T' tt:TypeId} {pos:String} {aft:Array Edge}
theorem eK {l:List (Nat×Operand)} {len e s:Nat} {zs:List Value} (g:List (List Value)) (O:bA.tk P T = .sl e) (hs:bA.sz P e=s+1) (k:dv P e=some zs) (hlen:Nat.ble (len*(s+1)) 16777216=true) (t:0<len)
  (y:∀a∈g,a.length=s+1) (u:g.length=len) (W:fO f l=Bu 0 g) (hd:aE n d=true) (hex:h0.ex=false)
  (h:∀b,h0.h.size<=b->RO P G qs c n h0 ops Q rest (aV f d (.slice (bi b) len len)) ((b,aj g.flatten e)::m)) :
  RO P G qs c n h0 ops Q (⟨d,.buildSlice T len l.toArray,tt,pos,aft,none⟩::rest) f m:=by
 refine oL rfl rfl hd fun C w A q a r=>?_
 unfold dv at k
 simp only[Option.bind_eq_some_iff,Option.map_eq_some_iff] at k
 obtain⟨i,hi,B,k,I⟩:=k
 have hsz:=A.size
 have z:len*(s+1)<=16777216:=Nat.le_of_ble_eq_true hlen
 obtain⟨Y,M,y2,F⟩:=sK (s+1) g 0 ((Array.range (len*(s+1))).map fun x=>B.cells[x%B.cells.size]!) y (by simp[u])
 have V:Y=g.flatten.toArray:=by
  apply Array.ext_getElem?
  intro j;rw[F j,ai aa];simp
 subst V
 refine cR (w':={ w with heap:=w.heap.push (aj g.flatten e).obj }) (v:=.slice (bi w.heap.size) len len) ?_
  ⟨_,_,_,r.put hd _,⟨rfl,q.2⟩,?_,by rw[q.1];exact dz.push hex _ _,h w.heap.size (by rw[q.1];exact hsz)⟩
 ·rw[r.eval,mU];have K:=iA f l
  have p:(Instr.buildSlice T len (l.toArray.map fun(i,x)=>(i,ev f x))).run P w = .ok (.slice (bi w.heap.size) len len) { w with heap:=w.heap.push (.cells g.flatten.toArray e) }:=by
   rw[K,W];simp only[Instr.buildSlice,Sem.run_bind,run_underlying (eR O),Result.andThen_ok,bP hs aa]
   have U:¬(len*(s+1)>2^24):=aa
   have J:¬(len*(s+1)=0):=by
    have H:0<len*(s+1):=Nat.mul_pos t (Nat.succ_pos s)
    exact Nat.ne_of_gt H
   simp only[U,if_false,J,Sem.run_bind,zeroValue,typeInfo,run_program,hi,k,Result.andThen_ok,Sem.run_pure]
   rw[M];simp[newRow]
  simp only[execOp,Sem.run_bind,p,Result.andThen_ok,Sem.run_pure]
 ·rw[q.1];exact A.push hex _
theorem vy {l:List (Nat×Operand)} {len e s:Nat} {zs:List Value} (g:List (List Value)) (y:bA.tk P T = .arr len e) (hs:bA.sz P e=s+1) (k:dv P T=some zs) (r:zs.length=len*(s+1))
  (q:∀a∈g,a.length=s+1) (p:g.length=len) (t:fO f l=Bu 0 g) (hd:aE n d=true)
  (h:RO P G qs c n h0 ops Q rest (aV f d (.agg g.flatten.toArray)) m):RO P G qs c n h0 ops Q (⟨d,.build T l.toArray,tt,pos,aft,none⟩::rest) f m:=by
 refine oO (fun w=>?_) hd h
 unfold dv at k
 simp only[Option.bind_eq_some_iff,Option.map_eq_some_iff] at k
 obtain⟨i,hi,z,k,rfl⟩:=k
 obtain⟨Y,u,C,A⟩:=sK (s+1) g 0 z.cells q (by rw[<- Array.length_toList,r,p,Nat.zero_add])
 have B:Y=g.flatten.toArray:=by
  apply Array.ext_getElem?
  intro j;rw[A j,ai aa];simp
 subst B
 rw[iA,t]
 simp only[Instr.build,Sem.run_bind,zeroValue,typeInfo,run_program,Result.andThen_ok,hi,Sem.run_pure,k,run_underlying (qC y),bP hs aa]
 rw[u]
 rfl
end
end Go.Eng
namespace Go.Proofs.YtogmacnlpclgkaaGreatDoor
open Go Go.Eng Go.Pz
attribute [local irreducible] RO J av aO
set_option maxRecDepth 20000
variable {G:ao} {d:Nat->Nat}
theorem pj:∀(l:List (Nat×Nat×Nat×Nat)) (p j:Nat),p<l.length->j<4->ct (l.map fun t=>gi (iH t)).flatten (p*4+j)=ct (gi (iH (l.getD p (0,0,0,0)))) j
 | [],p,j,h,_=>absurd h (Nat.not_lt_zero _)
 | t::l,0,j,_,hj=>by
  show(gi (iH t)++(l.map fun t=>gi (iH t)).flatten).getD (0*4+j) undef=(gi (iH t)).getD j undef
  rw[Nat.zero_mul,Nat.zero_add,List.getD_eq_getElem?_getD,List.getD_eq_getElem?_getD,List.getElem?_append_left (by show j<4;exact hj)]
 | t::l,p+1,j,h,hj=>by
  have g:=pj l p j (by simp only[List.length_cons] at h;omega) hj
  show(gi (iH t)++(l.map fun t=>gi (iH t)).flatten).getD ((p+1)*4+j) undef=_
  rw[List.getD_eq_getElem?_getD,List.getElem?_append_right (by show 4<=(p+1)*4+j;omega)]
  rw[show(p+1)*4+j-(gi (iH t)).length=p*4+j by show(p+1)*4+j-4=_;omega,<- List.getD_eq_getElem?_getD]
  exact g
def Bv (kind:Nat) (v:Value) (m:ao):Prop:=∃b B,v = .slice (bi b) (2^(gh kind).log) (2^(gh kind).log)/\m=[(b,B)]/\B.fr=(0,0)/\B.n=2^(gh kind).log*4/\v7 B.g (2^(gh kind).log) (gh kind).cell
theorem Dt {qs:List FuncId} {w:World} {n:Nat} {h0:dx} {ops:Array Oper} {Q:Fr->ao->Prop} {rest:List Oper} {f:Fr} {m:ao} {g:Option Tmp} {tt:TypeId} {pos:String} {aft:Array Edge} {a b c e:Int} (hd:aE n g=true)
  (h:RO Tryz.prog G qs w n h0 ops Q rest (aV f g (.agg #[.int .u32 a,.int .u8 b,.int .u8 c,.int .u16 e])) m):RO Tryz.prog G qs w n h0 ops Q (⟨g,.build 198 #[(0,.const (.int .u32 a)),(1,.const (.int .u8 b)),(2,.const (.int .u8 c)),(3,.const (.int .u16 e))],tt,pos,aft,none⟩::rest) f m :=
 bU (l:=[(0,.const (.int .u32 a)),(1,.const (.int .u8 b)),(2,.const (.int .u8 c)),(3,.const (.int .u16 e))]) (vs:=[.int .u32 a,.int .u8 b,.int .u8 c,.int .u16 e]) rfl rfl z198 rfl rfl rfl hd h
set_option maxHeartbeats 4000000 in
theorem H7:av Tryz.prog G 117 #[] [] (Bv 0):=by
 refine bE Tryz.func117 fun c h0 hex=>?_
 refine go ?_
 repeat refine Dt rfl ?_
 refine eK (s:=3) (zU.map fun t=>gi (iH t)) rfl rfl z198 rfl (by decide) (fun a i=>?_) rfl rfl rfl hex fun b hb=>?_
 ·obtain⟨t,_,rfl⟩:=List.mem_map.1 i
  rfl
 refine go ?_
 exact af (cE [0] ([(b,_)]) (junk:=[]) ⟨b,_,rfl,rfl,rfl,rfl,fun p g j h=>pj zU p j g h⟩ (.refl _))
set_option maxHeartbeats 4000000 in
theorem H8:av Tryz.prog G 119 #[] [] (Bv 1):=by
 refine bE Tryz.func119 fun c h0 hex=>?_
 refine go ?_
 repeat refine Dt rfl ?_
 refine eK (s:=3) (zV.map fun t=>gi (iH t)) rfl rfl z198 rfl (by decide) (fun a i=>?_) rfl rfl rfl hex fun b hb=>?_
 ·obtain⟨t,_,rfl⟩:=List.mem_map.1 i
  rfl
 refine go ?_
 exact af (cE [0] ([(b,_)]) (junk:=[]) ⟨b,_,rfl,rfl,rfl,rfl,fun p g j h=>pj zV p j g h⟩ (.refl _))
set_option maxHeartbeats 4000000 in
theorem H9:av Tryz.prog G 121 #[] [] (Bv 2):=by
 refine bE Tryz.func121 fun c h0 hex=>?_
 refine go ?_
 repeat refine Dt rfl ?_
 refine eK (s:=3) (zW.map fun t=>gi (iH t)) rfl rfl z198 rfl (by decide) (fun a i=>?_) rfl rfl rfl hex fun b hb=>?_
 ·obtain⟨t,_,rfl⟩:=List.mem_map.1 i
  rfl
 refine go ?_
 exact af (cE [0] ([(b,_)]) (junk:=[]) ⟨b,_,rfl,rfl,rfl,rfl,fun p g j h=>pj zW p j g h⟩ (.refl _))
def xm (a b c:Value):List Value:=[a,.int .i64 6,.int .i64 35,.int .i64 9,.func (.func 118) #[] #[],
 b,.int .i64 5,.int .i64 31,.int .i64 8,.func (.func 120) #[] #[],
 c,.int .i64 6,.int .i64 52,.int .i64 9,.func (.func 122) #[] #[]]
theorem H_:av Tryz.prog G 109 #[] [] (fun v m=>∃a b c u p r,Bv 0 a u/\Bv 1 b p/\Bv 2 c r/\v = .agg (xm a b c).toArray/\m=u++(p++r)):=by
 refine bE Tryz.func109 fun c h0 hex=>?_
 refine go ?_
 refine aC z207 rfl hex fun i y=>?_
 refine go ?_
 refine ae (H7 (G:=G)) ?_
 rintro v m ⟨b0,j,rfl,rfl,I,F,B⟩
 refine go ?_
 refine bU (vs:=[.slice (bi b0) 64 64,.int .i64 6,.int .i64 35,.int .i64 9,.func (.func 118) #[] #[]]) rfl rfl z206 rfl rfl rfl rfl ?_
 refine go ?_
 refine ae (H8 (G:=G)) ?_
 rintro v m ⟨g,k,rfl,rfl,C,J,H⟩
 refine go ?_
 refine bU (vs:=[.slice (bi g) 32 32,.int .i64 5,.int .i64 31,.int .i64 8,.func (.func 120) #[] #[]]) rfl rfl z206 rfl rfl rfl rfl ?_
 refine go ?_
 refine ae (H9 (G:=G)) ?_
 rintro v m ⟨h,l,rfl,rfl,z1,z2,z3⟩
 refine go ?_
 refine bU (vs:=[.slice (bi h) 64 64,.int .i64 6,.int .i64 52,.int .i64 9,.func (.func 122) #[] #[]]) rfl rfl z206 rfl rfl rfl rfl ?_
 refine go ?_
 refine vy (s:=4) [[.slice (bi b0) 64 64,.int .i64 6,.int .i64 35,.int .i64 9,.func (.func 118) #[] #[]],[.slice (bi g) 32 32,.int .i64 5,.int .i64 31,.int .i64 8,.func (.func 120) #[] #[]],[.slice (bi h) 64 64,.int .i64 6,.int .i64 52,.int .i64 9,.func (.func 122) #[] #[]]] rfl rfl z207 rfl (fun a q=>by simp only[List.mem_cons,List.not_mem_nil,or_false] at q;rcases q with rfl|rfl|rfl<;>rfl) rfl rfl rfl ?_
 refine go ?_
 refine ak (s:=14) (vs:=xm (.slice (bi b0) 64 64) (.slice (bi g) 32 32) (.slice (bi h) 64 64)) rfl rfl rfl rfl (cC rfl) (.there (.there (.there .here))) (aZ 15) rfl hex ?_
 refine go ?_
 refine af ?_
 exact cH [.cell 0 207] [.agg (xm (.slice (bi b0) 64 64) (.slice (bi g) 32 32) (.slice (bi h) 64 64)).toArray] ⟨⟨i,0,14,_,rfl,rfl,rfl,List.mem_cons_of_mem _ (List.mem_cons_of_mem _ (List.mem_cons_of_mem _ List.mem_cons_self)),aZ 15,rfl⟩,trivial⟩ (post:=[(b0,j)]++([(g,k)]++[(h,l)])) (junk:=[(i,_)]) ⟨_,_,_,_,_,_,⟨b0,j,rfl,rfl,I,F,B⟩,⟨g,k,rfl,rfl,C,J,H⟩,⟨h,l,rfl,rfl,z1,z2,z3⟩,rfl,rfl⟩ rfl (yo)
def Ia (kind:Nat) (tb:Value) (m:ao):Prop:=(tb = .slice none 0 0/\m=[])\/∃b l B,tb = .slice (bi b) l (2^dD kind)/\l<=2^dD kind/\m=[(b,B)]/\B.fr=(0,0)/\2^dD kind*4<=B.n
theorem Ia.form {kind:Nat} {tb:Value} {g:ao} (h:Ia kind tb g):∃k tl j,tb = .slice k tl j/\((j=0/\g=[])\/(j=2^dD kind/\∃p i,k=some ⟨p,0,none⟩/\tl<=2^dD kind/\g=[(p,i)]/\i.fr=(0,0)/\2^dD kind*4<=i.n)):=by
 rcases h with⟨rfl,rfl⟩|⟨b,l,B,rfl,r,rfl,q,t⟩
 ·exact⟨_,_,_,rfl,.inl ⟨rfl,rfl⟩⟩
 ·exact⟨_,_,_,rfl,.inr ⟨rfl,b,B,rfl,r,rfl,q,t⟩⟩
def yz (kind:Nat) (st tb:Value) (sb:Nat) (t:Option eQ) (m:ao):Prop :=
 ∃i h,m=i++h/\Ia kind tb i /\
  match t with
  | none=>st = .slice none 0 0/\h=[]
  | some T=>sb=T.log/\∃b c B,st = .slice (bi b) (2^T.log) c/\(b,B)∈m/\v7 B.g (2^T.log) T.cell/\2^T.log*4<=B.n/\(h=[]\/h=[(b,B)])
def FL (S:bN G) (kind:Nat) (l:Nat) (x:Int) (mk:Value->Value->Nat->Value->RS) (st:Value) (sb:Nat) (t:Option eQ) (R:Option (eQ×Nat)) (v:Value) (m:ao):Prop :=
 match R with
 | some (T,o)=>∃k g j i h,yz kind k g T.log (some T) j/\Bt i h/\v = .tuple #[ay o,.nilIface]/\m=(l,az x (mk k g T.log i))::(j++h)
 | none=>∃e g j i h,yz kind st g sb t j/\Bt i h/\v = .tuple #[.int .i64 0,e]/\dM S .z e/\m=(l,az x (mk st g sb i))::(j++h)
theorem kO {c:World} {n:Nat} {h0:dx} {Q:Exit->Fr->ao->Prop} {f:Fr} {m:ao} {id:Nat} {l:List Oper} {qs:List FuncId} (g:List Nat) {i:List Oper} (hl:kf l g=some i)
  (dE:pI l qs g=true) (h:RO Tryz.prog G qs c n h0 l.toArray (fun f m=>Q .normal f m) i f m):J Tryz.prog G c n h0 (.region id l.toArray true) Q f m :=
 tL g mixed_ok dE (tU hl) h
theorem Ib (z:Nat):H4 (aj [[.int .u8 (z:Nat),.int .u8 0,.int .u16 0]].flatten 211).g 1 (fun _=>z) (fun _=>0) (fun _=>0):=fun p h=>by
 obtain rfl:p=0:=aa
 exact⟨rfl,rfl,rfl⟩
theorem Br.fs {g:Nat->Value} {sh:Nat->Int} {n log:Nat} (h:Br g sh n log):H4 g (2^log) (aI sh n (2^log)) (aG sh n log) (bO sh n log):=h
end Go.Proofs.YtogmacnlpclgkaaGreatDoor
