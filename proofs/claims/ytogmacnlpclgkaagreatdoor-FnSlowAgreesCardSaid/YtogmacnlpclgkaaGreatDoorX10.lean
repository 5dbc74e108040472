/- Texts 10. -/
import Derived.Test.YtogmacnlpclgkaaGreatDoorX09
set_option linter.all false
namespace Go.Proofs.YtogmacnlpclgkaaGreatDoor
open Go Go.Eng
attribute [local irreducible] RO J av aO
section
variable (dat:Nat->Nat) (N:Nat)
def bw (p:Nat):Nat:=eX (fun i=>dat (p+i))
def e_ (p:Nat):Bool:=decide (4<=N-p)&&decide (407710288<=bw dat p)&&decide (bw dat p<=407710303)
def ck (p:Nat):Bool:=e_ dat N p&&decide (4+bw dat (p+4)<=N-(p+4))
def bF:Nat->Nat->Nat
 | 0,p=>p
 | f+1,p=>if ck dat N p then bF f (p+8+bw dat (p+4)) else p
def aD (d:Nat):Bool:=d/32%2==1
def aQ (d:Nat):Nat:=if aD d then 0 else 1
def aB (d:Nat):Nat:=if d%4=3 then 4 else d%4
def bC (d:Nat):Nat:=if d/64=0 then(if aD d then 1 else 0) else 2^(d/64)
def dg (d:Nat):Bool:=d/4%2==1
def cJ (d:Nat):Nat:=aQ d+aB d+bC d
def eW (d p:Nat):Nat :=
 if bC d=0 then 0 else if bC d=1 then dat p else if bC d=2 then 256+v5 (fun i=>dat (p+i)) else if bC d=4 then eX (fun i=>dat (p+i)) else l7 (fun i=>dat (p+i))
def cj (w:Nat):Nat:=2^(10+w/8)+2^(10+w/8)/8*(w%8)
def gO (p n:Nat):Bool:=(List.range n).all fun i=>dat (p+i)==0
inductive wR
 | short
 | bad (sum:Option Bool) (pos:Nat)
 | ok (sum known:Bool) (size win pos:Nat)
def dA (p:Nat):wR :=
 if N-p<4 then .short
 else if bw dat p≠4247762216 then(if e_ dat N p then .bad none N else .bad none (p+4))
 else if N-(p+4)<1 then .bad none N
 else
  let d:=dat (p+4)
  if d/8%2=1 then .bad none (p+5)
  else if N-(p+5)<cJ d then .bad (some (dg d)) N
  else if gO dat (p+5+aQ d) (aB d)=false then .bad (some (dg d)) (p+5+cJ d)
  else
   let size:=eW dat d (p+5+aQ d+aB d)
   .ok (dg d) (bC d != 0) size (min 8388608 (if aD d then size else cj (dat (p+5)))) (p+5+cJ d)
end
def RS.setSum (s:RS) (scr:Nat->Nat):Option Bool->RS
 | none=>{ s with scr:=scr }
 | some b=>{ s with scr:=scr,sum:=b,xl:=bif b then 0 else s.xl,xv:=fun i=>bif b then[6983438078262162902,14029467366897019727,0,7046029288634856825].getD i 0 else s.xv i,xb:=fun i=>bif b then 0 else s.xb i,xc:=bif b then 0 else s.xc }
def RS.setHdr (s:RS) (known:Bool) (size win:Nat) (wd:Value):RS :=
 {s with saw:=true,one:=true,unk:=!known,rem:=size,r1:=1,r2:=4,r3:=8,hb:=0,wsz:=win,wd:=wd,wo:=0,st0:=.slice none 0 0,st1:=.slice none 0 0,st2:=.slice none 0 0 }
variable {G:ao} {S:bN G} {dat:Nat->Nat} {N:Nat}
def ve (src:dn S dat N) (l:Nat) (s:RS) (p:Nat) (q:ao) (v:Value) (m:ao):Prop :=
 ∃x' g h,src.ok h/\(∀i,g i<256) /\
  (let p1:=bF dat N N p
   let s1:RS:={ s with one:=s.one||decide (p1≠p) }
   match dA dat N p1 with
   | .short=>src.pos h=N/\aR m ((l,az x' { s1 with scr:=g })::(src.mem h++q))/\dM S (if N-p1=0/\s1.one=true then .eof else .z) v
   | .bad sum pos=>src.pos h=pos/\aR m ((l,az x' (s1.setSum g sum))::(src.mem h++q))/\dM S .z v
   | .ok sum known size win pos=>src.pos h=pos/\v = .nilIface/\∃j k,dH 1 j 0 (fun _=>undef) k/\aR m ((l,az x' ((s1.setSum g (some sum)).setHdr known size win j))::(src.mem h++k)))
theorem C3:(List.range 256).all (fun d=>((d&&&32) != 0)==aD d&&((d&&&8) != 0)==(d/8%2==1)&&((d&&&4) != 0)==dg d&&(d&&&3)==d%4&&(d&&&7)==d%8)=true:=by kernel_rfl
theorem oX {d:Nat} (h:d<256):((d&&&32≠0) ↔ aD d=true)/\((d&&&8≠0) ↔ d/8%2=1)/\((d&&&4≠0) ↔ dg d=true)/\d&&&3=d%4/\d&&&7=d%8:=by
 have:=List.all_eq_true.1 C3 d (List.mem_range.2 h)
 simp only[Bool.and_eq_true,beq_iff_eq] at this
 obtain⟨⟨⟨⟨g,k⟩,j⟩,l⟩,i⟩:=this
 refine⟨?_,?_,?_,l,i⟩
 ·rw[<- g];simp
 ·rw[show(d/8%2=1) ↔ ((d/8%2==1)=true) by simp,<- k];simp
 ·rw[<- j];simp
theorem nO {g:Nat->Nat} {dat:Nat->Nat} (hg:∀i,g i<256) (hd:∀i,dat i<256) (n p:Nat):∀i,ov g n dat p i<256:=fun i=>by unfold ov;split;exact hd _;exact hg _
theorem Hy (x:Int) (s:RS):∀b,((az x s).st 2 (.bool b)).obj=(az x { s with sum:=b }).obj
 | true=>aW rfl rfl rfl rfl
 | false=>aW rfl rfl rfl rfl
theorem Hz (x:Int) (s:RS):((az x s).st 3 (.bool true)).obj=(az x { s with one:=true }).obj:=aW rfl rfl rfl rfl
theorem Jd (x:Int) (s:RS) (n:Nat):∀b,(((az x s).st 4 (.bool b)).st 5 (.int .u64 n)).obj=(az x { s with unk:=b,rem:=n }).obj
 | true=>aW rfl rfl rfl rfl
 | false=>aW rfl rfl rfl rfl
theorem JX (x:Int) (s:RS):((az x s).st 4 (.bool true)).obj=(az x { s with unk:=true }).obj:=aW rfl rfl rfl rfl
theorem C4 (x:Int) (s:RS) (n:Nat):((az x s).st 5 (.int .u64 n)).obj=(az x { s with rem:=n }).obj:=aW rfl rfl rfl rfl
theorem HA (x y:Int) (s:RS):((((((((az x s).st 1 (.bool true)).st 3 (.bool true)).st 6 (.int .i64 y)).st 9 (.int .u32 1)).st 10 (.int .u32 4)).st 11 (.int .u32 8)).st 13 (.int .i64 0)).obj=(az y { s with saw:=true,one:=true,r1:=1,r2:=4,r3:=8,hb:=0 }).obj:=aW rfl rfl rfl rfl
theorem Je (x:Int) (s:RS):((((az x s).st 19 (.slice none 0 0)).st 20 (.slice none 0 0)).st 21 (.slice none 0 0)).obj=(az x { s with st0:=.slice none 0 0,st1:=.slice none 0 0,st2:=.slice none 0 0 }).obj:=aW rfl rfl rfl rfl
noncomputable def JY:Code:=A0 Tryz.f67.body
theorem HC (hd:∀i,dat i<256) (c:World) (h0:dx) (hex:h0.ex=false) (k:Nat) (r:Int) (s:RS) (d p:Nat) (C F:ao) (wl:Nat) (wc:Nat->Value) (bo:d<256)
  (q:∀i,s.scr i<256) (y:∀i,i<cJ d->s.scr i=dat (p+5+i)) (hw:dH 1 s.wd wl wc C) (fb:bk) (a8:(2,fb)∈G) (a6:0<fb.n) (a9:fb.g 0 = .bool false)
  (K:Fr->ao->Prop) (R:Value->ao->Prop)
  (aw:gO dat (p+5+aQ d) (aB d)=false->∀x' v,dM S .z v->R v ((k,az x' s)::(F++C)))
  (t:gO dat (p+5+aQ d) (aB d)=true->∀x' M I m,dH 1 M 0 (fun _=>undef) I ->
   aR m ((k,az x' (s.setHdr (bC d != 0) (eW dat d (p+5+aQ d+aB d)) (min 8388608 (if aD d then eW dat d (p+5+aQ d+aB d) else cj (dat (p+5)))) M))::(F++I))->R .nilIface m)
  (f:Fr) :
  J Tryz.prog G c Tryz.f67.ntmps h0 (m8 19 JY) (CC 0 K (Eng.Ends Tryz.prog G c Tryz.f67 h0 R))
   (lh f [(0,bf k),(3,.int .i64 5),(10,.int .u8 d),(11,.bool (aD d)),(12,.int .i64 (bC d)),(13,.int .i64 (aQ d)),(14,.int .i64 (aB d)),(16,.int .i64 (cJ d))]) ((k,az r s)::(F++C)):=by
 have be:bC d<=8:=by
  have ab:d/64=0\/d/64=1\/d/64=2\/d/64=3:=aa
  unfold bC;split
  ·split<;>omega
  ·rcases ab with h|h|h|h<;>rw[h]<;>decide
 have bd:aQ d<=1:=by unfold aQ;split<;>omega
 have bc:aB d<=4:=by unfold aB;split<;>omega
 have hA:cJ d=aQ d+aB d+bC d:=rfl
 refine dk ?_
 refine iV [(0,bf k),(3,.int .i64 5),(10,.int .u8 d),(11,.bool (aD d)),(12,.int .i64 (bC d)),(13,.int .i64 (aQ d)),(14,.int .i64 (aB d)),(16,.int .i64 (cJ d)),(19,.int .u64 0)] ((k,az r s)::(F++C)) ?_ ?_
 ·refine run _ ?_
  exact⟨cF,.refl _⟩
 clear f
 intro f
 refine dk ?_
 refine iV [(0,bf k),(3,.int .i64 5),(10,.int .u8 d),(11,.bool (aD d)),(12,.int .i64 (bC d)),(13,.int .i64 (aQ d)),(14,.int .i64 (aB d)),(16,.int .i64 (cJ d)),(19,.int .u64 ((if aD d then 0 else cj (dat (p+5)):Nat):Int))] ((k,az r s)::(F++C)) ?_ ?_
 ·refine run _ ?_
  refine lk rfl rfl ?_
  refine aS _ ?_
  refine run _ ?_
  refine ei rfl (fun hs=>?_) (fun hs=>?_)
  ·have u:aD d=false:=by simpa using hs
   have bm:aQ d=1:=by unfold aQ;rw[u];rfl
   have am:s.scr 0=dat (p+5):=y 0 aa
   have a3:=q 0
   have hp:2^(s.scr 0/8+10)<=2^41:=Nat.pow_le_pow_right aa aa
   refine run _ ?_
   refine hJ (s.scr 0) 7 rfl rfl (by show _<256;omega) (by decide) rfl ?_
   rw[(oX a3).2.2.2.2];refine aS _ ?_
   refine run _ ?_
   refine m9 (k':=.u64) 1 (s.scr 0/8+10) rfl rfl (by show _<=64;omega) (by show _<2^64;omega) rfl ?_
   refine aS _ ?_
   refine run _ ?_
   obtain⟨A,ad⟩:∃A,1*2^(s.scr 0/8+10)=A:=⟨_,rfl⟩
   have bb:A<=2^41:=aa
   have ba:A/8*(s.scr 0%8)<=2^38*7:=Nat.mul_le_mul aa aa
   rw[ad];refine uT A 8 rfl rfl aa (by show _<2^64;omega) rfl ?_
   refine aS _ ?_
   refine run _ ?_
   refine aK rfl rfl (by simp[a8]) a6 a9 rfl ?_
   refine aS _ ?_
   refine run _ ?_
   refine⟨⟨rfl,rfl,rfl,rfl,rfl,rfl,rfl,rfl,?_,trivial⟩,.refl _⟩
   rw[u,<- am];have:cj (s.scr 0)=A+A/8*(s.scr 0%8):=by unfold cj;rw[Nat.add_comm 10,<- ad,Nat.one_mul]
   rw[ah Bool.false_ne_true,this]
   rfl
  ·have u:aD d=true:=by simpa using hs
   refine run _ ?_
   exact⟨⟨rfl,rfl,rfl,rfl,rfl,rfl,rfl,rfl,by rw[u];rfl,trivial⟩,.refl _⟩
 clear f
 intro f
 refine dk ?_
 refine Hk (gO dat (p+5+aQ d) (aB d)=true) [(0,bf k),(3,.int .i64 5),(10,.int .u8 d),(11,.bool (aD d)),(12,.int .i64 (bC d)),(13,.int .i64 (aQ d)),(14,.int .i64 (aB d)),(16,.int .i64 (cJ d)),(19,.int .u64 ((if aD d then 0 else cj (dat (p+5)):Nat):Int))] ((k,az r s)::(F++C)) ?_ ?_
 ·refine run _ ?_
  refine ac rfl (fun a7=>?_) (fun a7=>?_)
  ·have V:aB d≠0:=aa
   refine run _ ?_
   refine ym (aQ d) (aQ d+aB d) rfl rfl rfl rfl rfl aa aa aa rfl ?_
   refine aS _ ?_
   refine run _ ?_
   rw[show aQ d+aB d-aQ d=aB d from aa];refine mP (σ:=Nat) (fun i=>[(0,bf k),(3,.int .i64 5),(10,.int .u8 d),(11,.bool (aD d)),(12,.int .i64 (bC d)),(13,.int .i64 (aQ d)),(14,.int .i64 (aB d)),(16,.int .i64 (cJ d)),(19,.int .u64 ((if aD d then 0 else cj (dat (p+5)):Nat):Int)),
    (229,.slice (some ⟨k,28+aQ d,none⟩) (aB d) (16-aQ d)),(230,.int .i64 (aB d)),(231,.int .i64 i)]) (fun _=>(k,az r s)::(F++C))
    (fun i=>i<=aB d/\∀j,j<i->dat (p+5+aQ d+j)=0) (fun i=>aB d-i) 0 ⟨rfl,rfl,rfl,rfl,rfl,rfl,rfl,rfl,rfl,?_,rfl,rfl,trivial⟩ (.refl _) ⟨Nat.zero_le _,fun j hj=>aa⟩ ?_
   ·rfl
   rintro i f ⟨i1,i2⟩;refine run _ ?_
   refine ac rfl (fun al=>?_) (fun bq=>?_)
   ·have ax:i<aB d:=aa
    have O:s.scr (aQ d+i)=dat (p+5+(aQ d+i)):=y _ aa
    have a0:=q (aQ d+i)
    refine run _ ?_
    refine aF (v:=.int .u8 (s.scr (aQ d+i))) rfl rfl .here (by show _<83;omega) (by rw[Int.toNat_natCast,Nat.add_assoc];exact sg r s (aQ d+i) aa) rfl ?_
    refine aS _ ?_
    refine run _ ?_
    refine ac rfl (fun U=>?_) (fun U=>?_)
    ·refine run _ ?_
     refine ae (c_ S k r _ _ _) ?_
     rintro v m ⟨⟨b',rfl⟩,rfl⟩;refine aS _ ?_
     refine run _ ?_
     refine af ?_;refine ag [2] (aw ?_ r _ ⟨b',rfl⟩)
     cases hc:gO dat (p+5+aQ d) (aB d) with
     | false=>rfl
     | true =>
      have:=List.all_eq_true.1 hc i (List.mem_range.2 ax)
      simp only[beq_iff_eq] at this
      rw[O,<- Nat.add_assoc,this] at U;exact absurd rfl U
    ·refine run _ ?_
     refine⟨i+1,aa,⟨aa,fun j hj=>?_⟩,cF,.refl _⟩
     rcases Nat.lt_succ_iff_lt_or_eq.1 hj with h|h
     ·exact i2 j h
     ·subst h;rw[Nat.add_assoc,<- O];simp only[ne_eq,Decidable.not_not] at U
      omega
   ·have a1:i=aB d:=aa
    refine run _ ?_
    refine And.intro ?_ (And.intro cF (.refl _))
    refine List.all_eq_true.2 fun j hj=>?_
    rw[beq_iff_eq];exact i2 j (by rw[a1];exact List.mem_range.1 hj)
  ·refine run _ ?_
   have V:aB d=0:=aa
   refine⟨by rw[V];rfl,cF,.refl _⟩
 clear f
 intro hz f
 have a4:aQ d+aB d<16:=aa
 refine run _ ?_
 refine ym (aQ d+aB d) 16 rfl rfl rfl rfl rfl aa aa a4 rfl ?_
 refine aS _ ?_
 refine bZ (.cons (Jd r s 0 false) (.refl _)) ?_
 refine dk ?_
 have hF:bC d=0\/bC d=1\/bC d=2\/bC d=4\/bC d=8:=by
  have ab:d/64=0\/d/64=1\/d/64=2\/d/64=3:=aa
  unfold bC;split
  ·split
   ·exact .inr (.inl rfl)
   ·exact .inl rfl
  ·rename_i h0
   rcases ab with h|h|h|h
   ·exact absurd h h0
   all_goals rw[h];decide
 have l:∀n,n<=bC d->∀i,i<n->s.scr (aQ d+aB d+i)=dat (p+5+aQ d+aB d+i):=fun n hn i hi=>by
  rw[y _ aa];congr 1;omega
 refine iV [(0,bf k),(3,.int .i64 5),(11,.bool (aD d)),(16,.int .i64 (cJ d)),(19,.int .u64 ((if aD d then 0 else cj (dat (p+5)):Nat):Int))]
  ((k,az r { s with unk:=!(bC d != 0),rem:=eW dat d (p+5+aQ d+aB d) })::(F++C)) ?_ ?_
 ·unfold eW;rcases hF with h|h|h|h|h
  ·refine ez [(0,bf k),(3,.int .i64 5),(11,.bool (aD d)),(12,.int .i64 0),(16,.int .i64 (cJ d)),(19,.int .u64 ((if aD d then 0 else cj (dat (p+5)):Nat):Int)),(29,.slice (some ⟨k,28+(aQ d+aB d),none⟩) (16-(aQ d+aB d)) (16-(aQ d+aB d)))] _ ⟨rfl,rfl,rfl,by show Value.int _ _=_;rw[h];rfl,rfl,rfl,rfl,trivial⟩ (.refl _) ?_
   clear f;intro f;rw[h];refine run _ ?_
   show bS _ _/\aR _ _
   exact⟨cF,.cons (JX r { s with unk:=false,rem:=0 }) (.refl _)⟩
  ·refine ez [(0,bf k),(3,.int .i64 5),(11,.bool (aD d)),(12,.int .i64 1),(16,.int .i64 (cJ d)),(19,.int .u64 ((if aD d then 0 else cj (dat (p+5)):Nat):Int)),(29,.slice (some ⟨k,28+(aQ d+aB d),none⟩) (16-(aQ d+aB d)) (16-(aQ d+aB d)))] _ ⟨rfl,rfl,rfl,by show Value.int _ _=_;rw[h];rfl,rfl,rfl,rfl,trivial⟩ (.refl _) ?_
   clear f;intro f;rw[h];refine run _ ?_
   have O:s.scr (aQ d+aB d)=dat (p+5+aQ d+aB d):=l 1 aa 0 aa
   have a0:=q (aQ d+aB d)
   refine aF (B:=az r { s with unk:=false,rem:=0 }) (v:=.int .u8 (s.scr (aQ d+aB d))) rfl rfl .here (by show 28+(aQ d+aB d)<83;omega) (sg r { s with unk:=false,rem:=0 } (aQ d+aB d) aa) rfl ?_
   refine aS _ ?_
   refine run _ ?_
   rw[O];show bS _ _/\aR _ _
   exact⟨cF,.cons (C4 r { s with unk:=false,rem:=0 } (dat (p+5+aQ d+aB d))) (.refl _)⟩
  ·refine ez [(0,bf k),(3,.int .i64 5),(11,.bool (aD d)),(12,.int .i64 2),(16,.int .i64 (cJ d)),(19,.int .u64 ((if aD d then 0 else cj (dat (p+5)):Nat):Int)),(29,.slice (some ⟨k,28+(aQ d+aB d),none⟩) (16-(aQ d+aB d)) (16-(aQ d+aB d)))] _ ⟨rfl,rfl,rfl,by show Value.int _ _=_;rw[h];rfl,rfl,rfl,rfl,trivial⟩ (.refl _) ?_
   clear f;intro f;rw[h];refine run _ ?_
   have H:v5 (fun i=>s.scr (aQ d+aB d+i))=v5 (fun i=>dat (p+5+aQ d+aB d+i)):=by
    have e0:=l 2 aa 0 aa;have e1:=l 2 aa 1 aa;simp only[v5,e0,e1]
   have al:v5 (fun i=>s.scr (aQ d+aB d+i))<65536:=by have b0:=q (aQ d+aB d+0);have b1:=q (aQ d+aB d+1);simp only[v5];omega
   refine aA (CX G _ k (28+(aQ d+aB d)) (16-(aQ d+aB d)) (16-(aQ d+aB d)) _ _ (jF k r { s with unk:=false,rem:=0 } (List.mem_append.2 (.inl (List.mem_cons.2 (.inl rfl)))) (aQ d+aB d) 2 aa q) aa) ?_
   simp only
   refine aS _ ?_
   refine run _ ?_
   rw[H];show bS _ _/\aR _ _
   exact⟨cF,.cons (C4 r { s with unk:=false,rem:=0 } (256+v5 fun i=>dat (p+5+aQ d+aB d+i))) (.refl _)⟩
  ·refine ez [(0,bf k),(3,.int .i64 5),(11,.bool (aD d)),(12,.int .i64 4),(16,.int .i64 (cJ d)),(19,.int .u64 ((if aD d then 0 else cj (dat (p+5)):Nat):Int)),(29,.slice (some ⟨k,28+(aQ d+aB d),none⟩) (16-(aQ d+aB d)) (16-(aQ d+aB d)))] _ ⟨rfl,rfl,rfl,by show Value.int _ _=_;rw[h];rfl,rfl,rfl,rfl,trivial⟩ (.refl _) ?_
   clear f;intro f;rw[h];refine run _ ?_
   have H:eX (fun i=>s.scr (aQ d+aB d+i))=eX (fun i=>dat (p+5+aQ d+aB d+i)):=by
    have e0:=l 4 aa 0 aa;have e1:=l 4 aa 1 aa;have e2:=l 4 aa 2 aa;have e3:=l 4 aa 3 aa;simp only[eX,e0,e1,e2,e3]
   have al:=lC (fun i=>s.scr (aQ d+aB d+i)) (fun i=>q _)
   refine aA (my G _ k (28+(aQ d+aB d)) (16-(aQ d+aB d)) (16-(aQ d+aB d)) _ _ (jF k r { s with unk:=false,rem:=0 } (List.mem_append.2 (.inl (List.mem_cons.2 (.inl rfl)))) (aQ d+aB d) 4 aa q) aa) ?_
   simp only
   refine aS _ ?_
   refine run _ ?_
   rw[H];show bS _ _/\aR _ _
   exact⟨cF,.cons (C4 r { s with unk:=false,rem:=0 } (eX fun i=>dat (p+5+aQ d+aB d+i))) (.refl _)⟩
  ·refine ez [(0,bf k),(3,.int .i64 5),(11,.bool (aD d)),(12,.int .i64 8),(16,.int .i64 (cJ d)),(19,.int .u64 ((if aD d then 0 else cj (dat (p+5)):Nat):Int)),(29,.slice (some ⟨k,28+(aQ d+aB d),none⟩) (16-(aQ d+aB d)) (16-(aQ d+aB d)))] _ ⟨rfl,rfl,rfl,by show Value.int _ _=_;rw[h];rfl,rfl,rfl,rfl,trivial⟩ (.refl _) ?_
   clear f;intro f;rw[h];refine run _ ?_
   have H:l7 (fun i=>s.scr (aQ d+aB d+i))=l7 (fun i=>dat (p+5+aQ d+aB d+i)):=by
    have e0:=l 8 aa 0 aa;have e1:=l 8 aa 1 aa;have e2:=l 8 aa 2 aa;have e3:=l 8 aa 3 aa;have e4:=l 8 aa (0+4) aa;have e5:=l 8 aa (1+4) aa;have e6:=l 8 aa (2+4) aa;have e7:=l 8 aa (3+4) aa;simp only[l7,eX,e0,e1,e2,e3,e4,e5,e6,e7]
   refine aA (CY G _ k (28+(aQ d+aB d)) (16-(aQ d+aB d)) (16-(aQ d+aB d)) _ _ (jF k r { s with unk:=false,rem:=0 } (List.mem_append.2 (.inl (List.mem_cons.2 (.inl rfl)))) (aQ d+aB d) 8 aa q) aa (aZ _)) ?_
   simp only
   refine aS _ ?_
   refine run _ ?_
   rw[H];show bS _ _/\aR _ _
   exact⟨cF,.cons (C4 r { s with unk:=false,rem:=0 } (l7 fun i=>dat (p+5+aQ d+aB d+i))) (.refl _)⟩
 clear f
 intro f
 obtain⟨Z,hZ⟩:∃Z,eW dat d (p+5+aQ d+aB d)=Z:=⟨_,rfl⟩
 rw[hZ] at t ⊢
 refine dk ?_
 refine iV [(0,bf k),(3,.int .i64 5),(16,.int .i64 (cJ d)),(19,.int .u64 ((if aD d then Z else cj (dat (p+5)):Nat):Int))]
  ((k,az r { s with unk:=!(bC d != 0),rem:=Z })::(F++C)) ?_ ?_
 ·refine run _ ?_
  refine ei rfl (fun hs=>?_) (fun hs=>?_)
  ·have u:aD d=true:=hs
   refine run _ ?_
   show bS _ _/\aR _ _
   exact⟨⟨rfl,rfl,rfl,by rw[u];rfl,trivial⟩,.refl _⟩
  ·have u:aD d=false:=hs
   refine run _ ?_
   show bS _ _/\aR _ _
   exact⟨⟨rfl,rfl,rfl,by rw[u];rfl,trivial⟩,.refl _⟩
 clear f
 intro f
 obtain⟨Y,hY⟩:∃Y,(if aD d then Z else cj (dat (p+5)))=Y:=⟨_,rfl⟩
 rw[hY] at t ⊢
 refine dk ?_
 refine iV [(0,bf k),(3,.int .i64 5),(16,.int .i64 (cJ d)),(19,.int .u64 ((min 8388608 Y:Nat):Int))]
  ((k,az r { s with unk:=!(bC d != 0),rem:=Z })::(F++C)) ?_ ?_
 ·refine run _ ?_
  refine ac rfl (fun hs=>?_) (fun hs=>?_)
  ·refine run _ ?_
   show bS _ _/\aR _ _
   exact⟨⟨rfl,rfl,rfl,by rw[Nat.min_eq_left aa];rfl,trivial⟩,.refl _⟩
  ·refine run _ ?_
   show bS _ _/\aR _ _
   exact⟨⟨rfl,rfl,rfl,by rw[Nat.min_eq_right aa];rfl,trivial⟩,.refl _⟩
 clear f
 intro f
 have a5:min 8388608 Y<=8388608:=Nat.min_le_left _ _
 obtain⟨W,hW⟩:∃W,min 8388608 Y=W:=⟨_,rfl⟩
 rw[hW] at t a5 ⊢
 refine run _ ?_
 refine dq (op:=.add) rfl rfl rfl rfl ?_
 refine aS _ ?_
 refine run _ ?_
 refine ae (C1 G k (IntKind.i64.wrap (r+(5+(cJ d:Int)))) { s with unk:=!(bC d != 0),rem:=Z,saw:=true,one:=true,r1:=1,r2:=4,r3:=8,hb:=0 } W wl wc C hw aa) ?_
  (hs:=.cons (HA r _ { s with unk:=!(bC d != 0),rem:=Z }) (.of_perm List.perm_append_comm))
 rintro v m ⟨M,I,a2,rfl⟩
 refine aS _ ?_
 refine run _ ?_
 refine af ?_
 refine cL [2] rfl (junk:=[]) ?_ (t hz (IntKind.i64.wrap (r+(5+(cJ d:Int)))) M I _ a2 (.cons (Je _ { s with unk:=!(bC d != 0),rem:=Z,saw:=true,one:=true,r1:=1,r2:=4,r3:=8,hb:=0,wsz:=W,wd:=M,wo:=0 }) (.of_perm (List.perm_append_comm (l₁:=I) (l₂:=F)))))
 simpa using aR.refl _
end Go.Proofs.YtogmacnlpclgkaaGreatDoor
namespace Go.Proofs.YtogmacnlpclgkaaGreatDoor
open Go Go.Eng
attribute [local irreducible] RO J av aO
variable {G:ao} {S:bN G} {dat:Nat->Nat} {N:Nat}
theorem Jf (src:dn S dat N) (hd:∀i,dat i<256) (bq:lU src) (U:src.σ) (j:Nat) (x:Int) (s:RS) (O:ao) (wl:Nat) (wc:Nat->Value) (dE:src.ok U) (a6:s.rv = .iface src.t src.rv) (bo:∀i,s.scr i<256) (hw:dH 1 s.wd wl wc O)
  (fb:bk) (b5:(2,fb)∈G) (bu:0<fb.n) (b6:fb.g 0 = .bool false) :
  av Tryz.prog G 67 #[bf j] ((j,az x s)::(src.mem U++O)) (ve src j s (src.pos U) O):=by
 obtain⟨s,rfl⟩:∃s',s={ s' with rv:=.iface src.t src.rv }:=⟨s,by cases s;simp only at a6;rw[a6]⟩
 clear a6
 refine bE Tryz.func67 fun c h0 hex=>?_
 refine run _ ?_
 refine CD (σ:=Int×Bool×(Nat->Nat)×src.σ) 0 (fun _=>[(0,bf j)]) (fun z=>(j,az z.1 { s with rv:=.iface src.t src.rv,one:=z.2.1,scr:=z.2.2.1 })::(src.mem z.2.2.2++O))
  (fun z=>src.ok z.2.2.2/\(∀i,z.2.2.1 i<256)/\z.2.1=(s.one||decide (src.pos z.2.2.2≠src.pos U))/\src.pos U<=src.pos z.2.2.2/\∃k,N-src.pos z.2.2.2<=k/\bF dat N N (src.pos U)=bF dat N k (src.pos z.2.2.2)) (fun z=>N-src.pos z.2.2.2) (x,s.one,s.scr,U) ⟨rfl,trivial⟩ (.refl _)
  ⟨dE,bo,by simp,aZ _,N,by simp only;omega,rfl⟩ ?_
 rintro⟨u,dJ,l,q1⟩ f ⟨i1,i2,i3,i4,k,i5,i6⟩
 simp only at i1 i2 i3 i4 i5 i6
 have ch:=src.le q1 i1
 have y:bF dat N N (src.pos U)=src.pos q1->∀(x':Int) (Y:Nat->Nat) (q':src.σ) (v:Value) (sum:Option Bool) (pos:Nat),dA dat N (src.pos q1) = .bad sum pos->src.ok q'->(∀i,Y i<256)->src.pos q'=pos->dM S .z v ->
   ve src j { s with rv:=.iface src.t src.rv } (src.pos U) O v ((j,az x' (RS.setSum { s with rv:=.iface src.t src.rv,one:=dJ } Y sum))::(src.mem q'++O)):=fun e1 x' Y q' v sum pos M a1 a2 a3 a4=>by
  refine⟨x',Y,q',a1,a2,?_⟩
  simp only[e1,M]
  refine⟨a3,?_,a4⟩
  rw[i3];exact .refl _
 have bc:N-src.pos q1<4->bF dat N k (src.pos q1)=src.pos q1:=fun h=>by
  cases k with
  | zero=>rfl
  | succ k=>rw[bF,ah];simp[ck,e_];omega
 refine run _ ?_
 refine hG 4 rfl rfl rfl rfl aa rfl ?_
 refine aS _ ?_
 refine ae (kg src q1 j u { s with rv:=.iface src.t src.rv,one:=dJ,scr:=l } 4 i1 aa) ?_
 rintro v m ⟨q2,k2,g1,g2,g3,rfl,rfl⟩
 have C:∀i,ov l k2 dat (src.pos q1) i<256:=fun i=>by unfold ov;split;exact hd _;exact i2 _
 by_cases h4:4<=k2
 ·rw[eE h4];obtain rfl:k2=4:=aa;have cq:4<=N-src.pos q1:=aa
  refine aS _ ?_
  refine run _ ?_
  refine hG 4 rfl rfl rfl rfl aa rfl ?_
  refine aS _ ?_
  refine aA (my G _ j 28 4 16 _ _ (jF j u _ (by simp;exact .inl rfl) 0 4 aa C) aa) ?_
  have cb:eX (fun i=>ov l 4 dat (src.pos q1) (0+i))=bw dat (src.pos q1):=by simp[eX,ov,bw]
  simp only[cb]
  have b4:bw dat (src.pos q1)<4294967296:=lC _ (fun i=>hd _)
  have J:∃mg,bw dat (src.pos q1)=mg:=⟨_,rfl⟩
  obtain⟨mg,J⟩:=J;rw[J] at b4;simp only[J]
  have al:e_ dat N (src.pos q1)=false->bF dat N k (src.pos q1)=src.pos q1:=fun h=>by
   cases k with
   | zero=>rfl
   | succ k=>rw[bF,ah];simp[ck,h]
  have ab:mg≠4247762216->e_ dat N (src.pos q1)=false->dA dat N (src.pos q1) = .bad none (src.pos q1+4):=fun h1 h2=>by
   unfold dA;rw[ah aa,ai (by rw[J];exact h1),ah (by rw[h2];exact Bool.false_ne_true)]
  refine aS _ ?_
  refine run _ ?_
  refine ac rfl (fun ce=>?_) (fun cl=>?_)
  ·have ad:mg≠4247762216:=aa
   refine run _ ?_
   refine aJ 68 rfl (fun b2=>?_) (fun b2=>?_)
   ·refine aS _ ?_
    refine run _ ?_
    refine ac rfl (fun bb=>?_) (fun bb=>?_)
    ·have V:e_ dat N (src.pos q1)=true:=by simp only[e_,J,Bool.and_eq_true,decide_eq_true_eq];omega
     refine run _ ?_
     refine dq (op:=.add) rfl rfl rfl rfl ?_
     refine aS _ ?_
     refine bZ (.cons (rD _ _ _) (.refl _)) ?_
     refine run _ ?_
     refine ae (bq q2 j _ { s with rv:=.iface src.t src.rv,one:=dJ,scr:=ov l 4 dat (src.pos q1) } g1 rfl C) ?_
     rintro v m ⟨x3,q3,k3,j1,j2,rfl,j3⟩;have F:∀i,ov (ov l 4 dat (src.pos q1)) k3 dat (src.pos q2) i<256:=fun i=>by unfold ov;split;exact hd _;exact C _
     have b8:(eX fun i=>dat (src.pos q2+i))=bw dat (src.pos q1+4):=by unfold bw;rw[g3]
     rw[b8,g3] at j3;rcases j3 with⟨j3,rfl,j4⟩|⟨j3,⟨b',rfl⟩,j4⟩
     ·refine aS _ ?_
      refine run _ ?_
      refine Hf ?_;have bs:ck dat N (src.pos q1)=true:=by simp only[ck,V,Bool.true_and,decide_eq_true_eq];omega
      obtain⟨k',rfl⟩:∃k',k=k'+1:=⟨k-1,aa⟩
      refine⟨rfl,(x3,true,_,q3),by simp only;omega,⟨j1,F,?_,by simp only;omega,k',by simp only;omega,?_⟩,⟨rfl,trivial⟩,.cons (Hz _ _) (.refl _)⟩
      ·simp only;rw[decide_eq_true aa];simp
      ·simp only;rw[i6,bF,ai bs,j4]
     ·refine aS _ ?_
      refine run _ ?_
      refine af ?_;have a9:bF dat N k (src.pos q1)=src.pos q1:=by
       cases k with
       | zero=>rfl
       | succ k=>rw[bF,ah];simp only[ck,V,Bool.true_and,decide_eq_true_eq];omega
      have e1:bF dat N N (src.pos U)=src.pos q1:=by rw[i6,a9]
      have M:dA dat N (src.pos q1) = .bad none N:=by
       unfold dA;rw[ah aa,ai (by rw[J];exact ad),ai V]
      exact ag [2] (y e1 x3 _ q3 _ none N M j1 F j4 ⟨b',rfl⟩)
    ·refine run _ ?_
     refine ae (c_ S j u _ 0 _) ?_
     rintro v m ⟨⟨b',rfl⟩,rfl⟩;refine aS _ ?_
     refine run _ ?_
     refine af ?_;have aw:e_ dat N (src.pos q1)=false:=by simp only[e_,J,Bool.and_eq_false_iff,decide_eq_false_iff_not];omega
     exact ag [2] (y (by rw[i6,al aw]) u _ q2 _ none _ (ab ad aw) g1 C g3 ⟨b',rfl⟩)
   ·refine aS _ ?_
    refine run _ ?_
    refine ae (c_ S j u _ 0 _) ?_
    rintro v m ⟨⟨b',rfl⟩,rfl⟩;refine aS _ ?_
    refine run _ ?_
    refine af ?_;have aw:e_ dat N (src.pos q1)=false:=by simp only[e_,J,Bool.and_eq_false_iff,decide_eq_false_iff_not];omega
    exact ag [2] (y (by rw[i6,al aw]) u _ q2 _ none _ (ab ad aw) g1 C g3 ⟨b',rfl⟩)
  ·have ba:bw dat (src.pos q1)=4247762216:=aa
   have a9:bF dat N k (src.pos q1)=src.pos q1:=al (by simp[e_,ba])
   have e1:bF dat N N (src.pos U)=src.pos q1:=by rw[i6,a9]
   have cc:dJ=(s.one||decide (bF dat N N (src.pos U)≠src.pos U)):=by rw[e1];exact i3
   generalize hp:src.pos q1=p at *;refine run _ ?_
   refine hG 1 rfl rfl rfl rfl aa rfl ?_
   refine aS _ ?_
   refine ae (kg src q2 j u { s with rv:=.iface src.t src.rv,one:=dJ,scr:=ov l 4 dat p } 1 g1 aa) ?_
   rintro v m ⟨q3,k3,j1,j2,j3,rfl,rfl⟩;rw[g3] at j2 j3;rw[g3];have K:¬bw dat p≠4247762216:=aa
   by_cases bm:1<=k3
   ·rw[eE bm];obtain rfl:k3=1:=aa;have bd:=hd (p+4)
    obtain⟨b7,be,bv,b1,cm⟩:=oX bd;have a8:dat (p+4)/64=0\/dat (p+4)/64=1\/dat (p+4)/64=2\/dat (p+4)/64=3:=aa
    have F:=nO C hd 1 (p+4)
    refine aS _ ?_
    refine run _ ?_
    refine hJ (dat (p+4)) 32 rfl rfl (by show _<256;omega) (by decide) rfl ?_
    refine m_ (aD (dat (p+4))) rfl rfl (by rw[<- b7];omega) rfl ?_
    refine aS _ ?_
    refine run _ ?_
    refine m9 1 (dat (p+4)/64) rfl rfl (by show _<=64;omega) (by rcases a8 with h|h|h|h<;>rw[h]<;>decide) rfl ?_
    refine aS _ ?_
    refine dk ?_;refine iV [(0,bf j),(3,.int .i64 4),(10,.int .u8 (dat (p+4))),(11,.bool (aD (dat (p+4)))),(12,.int .i64 (bC (dat (p+4))))]
     ((j,az u { s with rv:=.iface src.t src.rv,one:=dJ,scr:=ov (ov l 4 dat p) 1 dat (p+4) })::(src.mem q3++O)) ?_ ?_
    ·refine run _ ?_
     refine aJ 125 rfl (fun a0=>?_) (fun a0=>?_)
     ·have am:dat (p+4)/64=0:=by
       rcases a8 with h|h|h|h
       ·exact h
       all_goals (rw[h] at a0;exact absurd a0 (by decide))
      refine aS _ ?_
      refine lk rfl rfl ?_
      refine aS _ ?_
      refine run _ ?_
      refine ei rfl (fun hs=>?_) (fun hs=>?_)
      ·refine run _ ?_
       refine⟨⟨rfl,rfl,rfl,rfl,?_,trivial⟩,.refl _⟩
       have:bC (dat (p+4))=0:=by unfold bC;rw[ai am,ah (by simpa using hs)]
       rw[this];rfl
      ·refine run _ ?_
       refine⟨⟨rfl,rfl,rfl,rfl,?_,trivial⟩,.refl _⟩
       have:bC (dat (p+4))=1*2^(dat (p+4)/64):=by unfold bC;rw[ai am,ai (by simpa using hs),am]
       rw[this];rfl
     ·have am:dat (p+4)/64≠0:=fun h=>a0 (by rw[h];rfl)
      refine aS _ ?_
      refine run _ ?_
      refine⟨⟨rfl,rfl,rfl,rfl,?_,trivial⟩,.refl _⟩
      have:bC (dat (p+4))=1*2^(dat (p+4)/64):=by unfold bC;rw[ah am];omega
      rw[this];rfl
    ·generalize cr:ov (ov l 4 dat p) 1 dat (p+4)=scr3 at F ⊢;intro f;refine run _ ?_
     refine iV [(0,bf j),(3,.int .i64 4),(10,.int .u8 (dat (p+4))),(11,.bool (aD (dat (p+4)))),(12,.int .i64 (bC (dat (p+4)))),(13,.int .i64 (aQ (dat (p+4))))]
      ((j,az u { s with rv:=.iface src.t src.rv,one:=dJ,scr:=scr3 })::(src.mem q3++O)) ?_ ?_
     ·refine ei rfl (fun hs=>?_) (fun hs=>?_)
      ·refine run _ ?_
       exact⟨⟨rfl,rfl,rfl,rfl,rfl,by unfold aQ;rw[ai hs];rfl,trivial⟩,.refl _⟩
      ·refine run _ ?_
       exact⟨⟨rfl,rfl,rfl,rfl,rfl,by unfold aQ;rw[ah (by rw[hs];exact Bool.false_ne_true)];rfl,trivial⟩,.refl _⟩
     intro f;refine run _ ?_
     refine hJ (dat (p+4)) 8 rfl rfl (by show _<256;omega) (by decide) rfl ?_
     refine aS _ ?_
     refine run _ ?_
     refine ac rfl (fun a5=>?_) (fun a5=>?_)
     ·have H:=be.1 aa
      refine run _ ?_
      refine ae (c_ S j u _ _ _) ?_
      rintro v m ⟨⟨b',rfl⟩,rfl⟩;refine aS _ ?_
      refine run _ ?_
      refine af ?_;have M:dA dat N p = .bad none (p+5):=by
       unfold dA;rw[ah aa,ah K,ah aa,ai H]
      exact ag [2] (y e1 u _ q3 _ none _ M j1 F aa ⟨b',rfl⟩)
     ·have H:¬dat (p+4)/8%2=1:=fun h=>a5 (by have:=be.2 h;omega)
      refine run _ ?_
      refine hJ (dat (p+4)) 4 rfl rfl (by show _<256;omega) (by decide) rfl ?_
      refine m_ (dg (dat (p+4))) rfl rfl (by rw[<- bv];omega) rfl ?_
      refine aS _ ?_
      refine bZ (.cons (Hy _ _ _) (.refl _)) ?_
      refine run _ ?_
      refine iV [(0,bf j),(3,.int .i64 4),(10,.int .u8 (dat (p+4))),(11,.bool (aD (dat (p+4)))),(12,.int .i64 (bC (dat (p+4)))),(13,.int .i64 (aQ (dat (p+4))))]
       ((j,az u (RS.setSum { s with rv:=.iface src.t src.rv,one:=dJ } scr3 (some (dg (dat (p+4))))))::(src.mem q3++O)) ?_ ?_
      ·refine ei rfl (fun hs=>?_) (fun hs=>?_)
       ·refine run _ ?_
        refine ae (C0 G j u _) ?_
        rintro v m rfl;refine aS _ ?_
        refine⟨cF,?_⟩
        have hs:dg (dat (p+4))=true:=hs
        rw[hs];exact .refl _
       ·refine run _ ?_
        refine⟨cF,?_⟩
        have hs:dg (dat (p+4))=false:=hs
        rw[hs];exact .refl _
      intro f;refine run _ ?_
      refine hJ (dat (p+4)) 3 rfl rfl (by show _<256;omega) (by decide) rfl ?_
      rw[b1];refine aS _ ?_
      refine run _ ?_
      have a7:dat (p+4)%4=0\/dat (p+4)%4=1\/dat (p+4)%4=2\/dat (p+4)%4=3:=aa
      refine iV [(0,bf j),(3,.int .i64 4),(10,.int .u8 (dat (p+4))),(11,.bool (aD (dat (p+4)))),(12,.int .i64 (bC (dat (p+4)))),(13,.int .i64 (aQ (dat (p+4)))),(14,.int .i64 (aB (dat (p+4))))]
       ((j,az u (RS.setSum { s with rv:=.iface src.t src.rv,one:=dJ } scr3 (some (dg (dat (p+4))))))::(src.mem q3++O)) ?_ ?_
      ·refine ac rfl (fun hs=>?_) (fun hs=>?_)
       ·refine run _ ?_
        refine m9 (k':=.u8) 1 (dat (p+4)%4-1) rfl ?_ (by show _<=64;omega) (by rcases a7 with h|h|h|h<;>rw[h]<;>decide) rfl ?_
        ·show Value.int .u8 _=Value.int .u8 _
         congr 1;omega
        refine aS _ ?_
        refine⟨⟨rfl,rfl,rfl,rfl,rfl,rfl,?_,trivial⟩,.refl _⟩
        have:aB (dat (p+4))=1*2^(dat (p+4)%4-1):=by
         unfold aB;rcases a7 with h|h|h|h
         ·exact absurd hs (by rw[h];decide)
         all_goals rw[h];rfl
        rw[this];rfl
       ·refine run _ ?_
        refine⟨⟨rfl,rfl,rfl,rfl,rfl,rfl,?_,trivial⟩,.refl _⟩
        have:aB (dat (p+4))=0:=by
         unfold aB;rcases a7 with h|h|h|h
         ·rw[h];rfl
         all_goals (rw[h] at hs;exact absurd (by decide) hs)
        rw[this];rfl
      intro f;have cn:bC (dat (p+4))<=8:=by
       unfold bC;split
       ·split<;>omega
       ·rcases a8 with h|h|h|h<;>rw[h]<;>decide
      have cp:aQ (dat (p+4))<=1:=by unfold aQ;split<;>omega
      have cd:aB (dat (p+4))<=4:=by unfold aB;split<;>omega
      have hA:cJ (dat (p+4))=aQ (dat (p+4))+aB (dat (p+4))+bC (dat (p+4)):=rfl
      have e3:N-(p+4) ≥ 1:=aa
      refine dk ?_;refine iV [(0,bf j),(3,.int .i64 5),(10,.int .u8 (dat (p+4))),(11,.bool (aD (dat (p+4)))),(12,.int .i64 (bC (dat (p+4)))),(13,.int .i64 (aQ (dat (p+4)))),(14,.int .i64 (aB (dat (p+4))))]
       ((j,az u (RS.setSum { s with rv:=.iface src.t src.rv,one:=dJ } scr3 (some (dg (dat (p+4))))))::(src.mem q3++O)) ?_ ?_
      ·refine run _ ?_
       show bS _ _/\aR _ _
       exact⟨cF,.refl _⟩
      clear f;intro f;refine dk ?_;refine iV [(0,bf j),(3,.int .i64 5),(10,.int .u8 (dat (p+4))),(11,.bool (aD (dat (p+4)))),(12,.int .i64 (bC (dat (p+4)))),(13,.int .i64 (aQ (dat (p+4)))),(14,.int .i64 (aB (dat (p+4)))),(16,.int .i64 (cJ (dat (p+4))))]
       ((j,az u (RS.setSum { s with rv:=.iface src.t src.rv,one:=dJ } scr3 (some (dg (dat (p+4))))))::(src.mem q3++O)) ?_ ?_
      ·refine run _ ?_
       show bS _ _/\aR _ _
       exact⟨cF,.refl _⟩
      clear f;intro f;refine dk ?_;refine CG (σ:=src.σ) (fun _=>[(0,bf j),(3,.int .i64 5),(10,.int .u8 (dat (p+4))),(11,.bool (aD (dat (p+4)))),(12,.int .i64 (bC (dat (p+4)))),(13,.int .i64 (aQ (dat (p+4)))),(14,.int .i64 (aB (dat (p+4)))),(16,.int .i64 (cJ (dat (p+4))))])
       (fun q=>(j,az u (RS.setSum { s with rv:=.iface src.t src.rv,one:=dJ } (ov scr3 (cJ (dat (p+4))) dat (p+5)) (some (dg (dat (p+4))))))::(src.mem q++O))
       (fun q=>src.ok q/\src.pos q=p+5+cJ (dat (p+4))/\cJ (dat (p+4))<=N-(p+5)) ?_ ?_
      ·refine run _ ?_
       refine hG (cJ (dat (p+4))) rfl rfl rfl rfl aa rfl ?_
       refine aS _ ?_
       refine ae (kg src q3 j u (RS.setSum { s with rv:=.iface src.t src.rv,one:=dJ } scr3 (some (dg (dat (p+4))))) (cJ (dat (p+4))) j1 aa) ?_
       rintro v m ⟨q4,k4,l1,l2,l3,rfl,rfl⟩;rw[j3] at l2 l3;rw[j3];have I:=nO F hd k4 (p+5)
       by_cases h6:cJ (dat (p+4))<=k4
       ·rw[eE h6];obtain rfl:k4=cJ (dat (p+4)):=aa;refine aS _ ?_
        refine run _ ?_
        exact⟨q4,⟨l1,aa,aa⟩,cF,.refl _⟩
       ·have M:dA dat N p = .bad (some (dg (dat (p+4)))) N:=by
         unfold dA;rw[ah aa,ah K,ah aa];simp only
         rw[ah H,ai aa]
        by_cases h7:k4=0
        ·rw[eD h6 h7];refine aS _ ?_
         refine run _ ?_
         refine ae (iO S j u _ _) ?_
         rintro v m ⟨⟨b',rfl⟩,rfl⟩;refine aS _ ?_
         refine run _ ?_
         exact af (ag [2] (y e1 u _ q4 _ (some (dg (dat (p+4)))) _ M l1 I aa ⟨b',rfl⟩))
        ·rw[eF h6 h7];refine aS _ ?_
         refine run _ ?_
         refine ae (lD S j u _ _) ?_
         rintro v m ⟨⟨b',rfl⟩,rfl⟩;refine aS _ ?_
         refine run _ ?_
         exact af (ag [2] (y e1 u _ q4 _ (some (dg (dat (p+4)))) _ M l1 I aa ⟨b',rfl⟩))
      clear f;rintro q4 f ⟨l1,l3,l2⟩;have I:=nO F hd (cJ (dat (p+4))) (p+5)
      refine HC (S:=S) hd c h0 hex j u (RS.setSum { s with rv:=.iface src.t src.rv,one:=dJ } (ov scr3 (cJ (dat (p+4))) dat (p+5)) (some (dg (dat (p+4))))) (dat (p+4)) p O (src.mem q4) wl wc bd I
       (fun i hi=>by show ov scr3 (cJ (dat (p+4))) dat (p+5) i=_;unfold ov;rw[ai hi]) hw fb b5 bu b6 _ _ ?_ ?_ f
      ·intro hz x' v he
       have M:dA dat N p = .bad (some (dg (dat (p+4)))) (p+5+cJ (dat (p+4))):=by
        unfold dA;rw[ah aa,ah K,ah aa];simp only
        rw[ah H,ah aa,ai hz]
       exact y e1 x' _ q4 _ (some (dg (dat (p+4)))) _ M l1 I l3 he
      ·intro hz x' br ca m b3 hm
       refine⟨x',_,q4,l1,I,?_⟩
       have M:dA dat N p = .ok (dg (dat (p+4))) (bC (dat (p+4)) != 0) (eW dat (dat (p+4)) (p+5+aQ (dat (p+4))+aB (dat (p+4))))
         (min 8388608 (if aD (dat (p+4)) then eW dat (dat (p+4)) (p+5+aQ (dat (p+4))+aB (dat (p+4))) else cj (dat (p+5)))) (p+5+cJ (dat (p+4))):=by
        unfold dA;rw[ah aa,ah K,ah aa];simp only
        rw[ah H,ah aa,ah (by rw[hz];decide)]
       simp only[e1,M]
       refine⟨l3,by trivial,br,ca,b3,?_⟩
       rw[i3] at hm;exact hm
   ·have bt:k3=0:=aa
    rw[eD bm bt];refine aS _ ?_
    refine run _ ?_
    refine ae (iO S j u _ _) ?_
    rintro v m ⟨⟨b',rfl⟩,rfl⟩;refine aS _ ?_
    refine run _ ?_
    refine af ?_;have M:dA dat N p = .bad none N:=by
     unfold dA;rw[ah aa,ah K,ai aa]
    exact ag [2] (y e1 u _ q3 _ none N M j1 (nO C hd _ _) aa ⟨b',rfl⟩)
 ·have b9:=bc aa
  have W:∀(v:Value) (m:ao),m=(j,az u { s with rv:=.iface src.t src.rv,one:=dJ,scr:=ov l k2 dat (src.pos q1) })::(src.mem q2++O)->dM S (if N-src.pos q1=0/\dJ=true then .eof else .z) v ->
    ve src j { s with rv:=.iface src.t src.rv } (src.pos U) O v m:=fun v m hm he=>by
   refine⟨u,_,q2,g1,C,?_⟩
   have e1:bF dat N N (src.pos U)=src.pos q1:=by rw[i6,b9]
   have M:dA dat N (src.pos q1) = .short:=by unfold dA;rw[ai aa]
   simp only[e1,M]
   refine⟨aa,?_,by rw[<- i3];exact he⟩
   rw[hm,i3];exact .refl _
  by_cases h5:k2=0
  ·rw[eD h4 h5];refine aS _ ?_
   refine run _ ?_
   refine aK rfl rfl (by simp[S.e0]) S.e0n S.e0g rfl ?_
   refine aS _ ?_
   obtain⟨i,hi,ax⟩:=lz;refine gn (r:=true) (B:=S.E1) (B':=S.E1) rfl rfl rfl rfl hi ax rfl (.inl ⟨rfl,by simp⟩) rfl ?_
   refine aS _ ?_
   cases dJ with
   | true =>
    refine aS _ ?_
    refine run _ ?_
    refine ae (tA G S j 0) ?_
    rintro v m ⟨rfl,rfl⟩;refine aS _ ?_
    refine run _ ?_
    exact af (ag [2] (W _ _ rfl (by rw[ai ⟨aa,rfl⟩];rfl)))
   | false =>
    refine aS _ ?_
    refine run _ ?_
    refine aK rfl rfl (by simp[S.u0]) S.u0n S.u0g rfl ?_
    refine aS _ ?_
    refine run _ ?_
    refine ae (zJ S j u _ 0) ?_
    rintro v m ⟨⟨b',rfl⟩,rfl⟩;refine aS _ ?_
    refine run _ ?_
    exact af (ag [2] (W _ _ rfl (by rw[ah (by simp)];exact⟨b',rfl⟩)))
  ·rw[eF h4 h5];refine aS _ ?_
   refine run _ ?_
   refine aK rfl rfl (by simp[S.e0]) S.e0n S.e0g rfl ?_
   refine aS _ ?_
   obtain⟨i,hi,ax⟩:=lz;refine gn (r:=false) (B:=S.U1) (B':=S.E1) rfl rfl rfl rfl hi ax rfl ?_ rfl ?_
   ·by_cases hb:S.ub=S.eb
    ·exact .inl ⟨hb,by have:=S.ne.resolve_left (fun h=>h hb);simp[this]⟩
    ·exact .inr ⟨hb,rfl,by simp[S.u1],by simp[S.e1],S.u1f,S.e1f⟩
   refine aS _ ?_
   refine run _ ?_
   refine ae (zJ S j u _ 0) ?_
   rintro v m ⟨⟨b',rfl⟩,rfl⟩;refine aS _ ?_
   refine run _ ?_
   exact af (ag [2] (W _ _ rfl (by rw[ah aa];exact⟨b',rfl⟩)))
end Go.Proofs.YtogmacnlpclgkaaGreatDoor
namespace Go.Proofs.YtogmacnlpclgkaaGreatDoor
open Go Go.Eng
attribute [local irreducible] RO J av aO
def RS.reset (s:RS) (v:Value) (buf:Value):RS:={ s with rv:=v,saw:=false,sum:=false,one:=false,unk:=false,rem:=0,buf:=buf,off:=0 }
theorem wS (x:Int) (s:RS) (v g:Value):((((((((((az x s).st 0 v).st 1 (.bool false)).st 2 (.bool false)).st 3 (.bool false)).st 4 (.bool false)).st 5 (.int .u64 0)).st 6 (.int .i64 0)).st 7 g).st 8 (.int .i64 0)).obj=(az 0 (s.reset v g)).obj:=aW rfl rfl rfl rfl
theorem zK (G:ao) (h:Nat) (x:Int) (s:RS) (t:TypeId) (rv:Value) (g:Value) (hb:(s.buf = .slice none 0 0/\g = .slice none 0 0)\/∃b o l i,l<=i/\s.buf = .slice (some ⟨b,o,none⟩) l i/\g = .slice (some ⟨b,o,none⟩) 0 i) :
  av Tryz.prog G 38 #[bf h,.iface t rv] [(h,az x s)] (fun _ m=>m=[(h,az 0 (s.reset (.iface t rv) g))]):=by
 refine bE Tryz.func38 fun c h0 hex=>?_
 rcases hb with⟨j,rfl⟩|⟨b,o,l,i,k,j,rfl⟩
 ·refine run _ ?_
  refine fY j rfl rfl rfl rfl rfl ?_
  refine aS _ ?_
  refine run _ ?_
  exact bY [] (post:=[(h,az 0 _)]) (junk:=[]) rfl rfl (.cons (wS x s _ _) .nil)
 ·refine run _ ?_
  refine rz 0 j rfl rfl rfl aa rfl ?_
  refine aS _ ?_
  refine run _ ?_
  exact bY [] (post:=[(h,az 0 _)]) (junk:=[]) rfl rfl (.cons (wS x s _ _) .nil)
def RS.zero:RS where
 rv:=.nilIface
 saw:=false
 sum:=false
 one:=false
 unk:=false
 rem:=0
 buf:=.slice none 0 0
 off:=0
 r1:=0
 r2:=0
 r3:=0
 ht:=.slice none 0 0
 hb:=0
 wsz:=0
 wd:=.slice none 0 0
 wo:=0
 cb:=.slice none 0 0
 lit:=.slice none 0 0
 st0:=.slice none 0 0
 st1:=.slice none 0 0
 st2:=.slice none 0 0
 sb0:=0
 sb1:=0
 sb2:=0
 tb0:=.slice none 0 0
 tb1:=.slice none 0 0
 tb2:=.slice none 0 0
 scr:=fun _=>0
 fs:=.slice none 0 0
 xl:=0
 xv:=fun _=>0
 xb:=fun _=>0
 xc:=0
theorem Kv:dv Tryz.prog 88=some (wQ 0 RS.zero):=by kernel_rfl
theorem kh (G:ao) (t:TypeId) (rv:Value):av Tryz.prog G 32 #[.iface t rv] [] (fun v m=>∃g,v=bf g/\m=[(g,az 0 (RS.zero.reset (.iface t rv) (.slice none 0 0)))]):=by
 refine bE Tryz.func32 fun c h0 hex=>?_
 refine run _ ?_
 refine aC Kv rfl hex fun g h=>?_
 refine aS _ ?_
 refine run _ ?_
 refine ae (zK G g 0 RS.zero t rv (.slice none 0 0) (.inl ⟨rfl,rfl⟩)) ?_
 rintro v m rfl
 refine aS _ ?_
 refine run _ ?_
 exact af (ag [2] ⟨g,rfl,rfl⟩)
end Go.Proofs.YtogmacnlpclgkaaGreatDoor
