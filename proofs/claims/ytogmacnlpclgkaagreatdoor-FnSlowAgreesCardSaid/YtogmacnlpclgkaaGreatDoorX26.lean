/- Texts 26. -/
import Derived.Test.YtogmacnlpclgkaaGreatDoorX25
set_option linter.all false
namespace Go.Proofs.YtogmacnlpclgkaaGreatDoor
open Go Go.Eng Go.Pz
attribute [local irreducible] RO J av aO
set_option maxRecDepth 20000
variable {G:ao} {d:Nat->Nat}
def jv (h:Option Addr) (n g q:Nat) (bad:Bool):bk:=aj [.slice h n g,ay q,.bool bad] 150
theorem Iv (h:Option Addr) (n g q i:Nat) (bad:Bool):((jv h n g q bad).st 1 (ay i)).obj=(jv h n g i bad).obj:=aW rfl rfl rfl rfl
theorem Iw (h:Option Addr) (n g q:Nat) (bad:Bool):((jv h n g q bad).st 2 (.bool true)).obj=(jv h n g q true).obj:=aW rfl rfl rfl rfl
theorem Jw {a b j:Nat} (h:a<2^j):a|||(b*2^j)=a+b*2^j:=by
 have:=Nat.shiftLeft_add_eq_or_of_lt h b
 rw[Nat.shiftLeft_eq] at this
 rw[Nat.or_comm,<- this];omega
theorem pu (g:Nat) (h:Option Addr) (N j:Nat) (hd:∀i,d i<256) (C:aU G h N j d) (K:N<=2^40) (q:Nat) (bad:Bool) (B:q<=8*N) (n:Nat) (H:n<=40) :
  av Tryz.prog G 72 #[bf g,ay n] [(g,jv h N j q bad)] (fun v m =>
   (q+n<=8*N/\v = .int .i64 (aq d q n:Nat)/\m=[(g,jv h N j (q+n) bad)])\/(8*N<q+n/\v = .int .i64 0/\m=[(g,jv h N j q true)])):=by
 refine bE Tryz.func72 fun c h0 hex=>?_
 refine go ?_
 refine aH (σ:=Nat) [] (fun i=>[(0,bf g),(1,ay n),(5,.int .i64 (aq d q i:Nat)),(8,ay n),(9,ay i)]) (fun _=>[(g,jv h N j q bad)]) (fun i=>i<=n/\q+i<=8*N) (fun i=>n-i) 0 (.refl _) ⟨Nat.zero_le _,B⟩ ?_
 rintro i f ⟨hi,p⟩
 refine go ?_
 refine ac rfl (fun y=>?_) (fun u=>?_)
 ·refine go ?_;refine ac rfl (fun t=>?_) (fun z=>?_)
  ·refine go ?_;exact af (cE [4] ([(g,_)]) (junk:=[]) (.inr ⟨aa,rfl,rfl⟩) (.cons (Iw _ _ _ _ _) (.refl _)))
  ·obtain⟨b0,J,rfl⟩:=C.some aa;have k:=hd ((q+i)/8)
   have F:d ((q+i)/8)/2^((q+i)%8)<256:=Nat.lt_of_le_of_lt (Nat.div_le_self _ _) k
   have l:2^i<=2^40:=Nat.pow_le_pow_right aa aa
   have r:=aY d i q
   have I:d ((q+i)/8)/2^((q+i)%8)%2*2^i<=1*2^40:=Nat.mul_le_mul aa l
   refine go ?_;refine gb rfl rfl rfl rfl (dL aa) (dL aa) (Jw r) rfl ?_
   rw[show aq d q i+d ((q+i)/8)/2^((q+i)%8)%2*2^i=aq d q (i+1) by rw[qO,Nat.mul_comm];rfl]
   refine go ?_;exact⟨i+1,aa,⟨aa,aa⟩,cF,.refl _⟩
 ·obtain rfl:i=n:=aa;refine go ?_;exact af (cE [4] ([(g,_)]) (junk:=[]) (.inl ⟨p,rfl,rfl⟩) (.cons (Iv _ _ _ _ _ _) (.refl _)))
def Kb (d:Nat->Nat) (i:Nat) (g:Option Addr) (N h q most:Nat) (v:Value) (m:ao):Prop :=
 (q+(eg d q most).2<=8*N/\v = .int .i64 ((eg d q most).1:Nat)/\m=[(i,jv g N h (q+(eg d q most).2) false)]) \/
 (8*N<q+(eg d q most).2/\∃y j:Nat,j<=8*N/\v=ay y/\m=[(i,jv g N h j true)])
theorem Ga (g:Nat) (p:Option Addr) (N t:Nat) (hd:∀i,d i<256) (J:aU G p N t d) (M:N<=2^40) (q:Nat) (B:q<=8*N) (most:Nat) (h1:1<=most) (hm:most<=4096) :
  av Tryz.prog G 73 #[bf g,ay most] [(g,jv p N t q false)] (Kb d g p N t q most):=by
 refine bE Tryz.func73 fun c h0 hex=>?_
 refine go ?_
 refine aH (σ:=Nat) [] (fun i=>[(0,bf g),(1,ay most),(5,ay i)]) (fun _=>[(g,jv p N t q false)]) (fun i=>i<=Nat.log2 most+1) (fun i=>Nat.log2 most+1-i) 0 (.refl _) (Nat.zero_le _) ?_
 intro i f hi
 have hl:Nat.log2 most<=12:=by
  have W:2^Nat.log2 most<=most:=Nat.log2_self_le aa
  exact(Nat.pow_le_pow_iff_right (by omega:1<2)).1 (Nat.le_trans W hm)
 have K:2^Nat.log2 most<=most:=Nat.log2_self_le aa
 have I:most<2^(Nat.log2 most+1):=Nat.lt_log2_self
 refine go ?_
 refine ac rfl (fun z=>?_) (fun U=>?_)
 ·have V:i≠Nat.log2 most+1:=by
   rintro rfl;rw[Nat.div_eq_of_lt I] at z;exact absurd z (by decide)
  refine go ?_;exact⟨i+1,aa,aa,cF,.refl _⟩
 ·have F:i=Nat.log2 most+1:=by
   by_cases he:i=Nat.log2 most+1
   ·exact he
   ·exfalso
    have:2^i<=most:=Nat.le_trans (Nat.pow_le_pow_right aa (by omega:i<=Nat.log2 most)) K
    have:=Nat.div_pos this (Nat.two_pow_pos i)
    omega
  subst F;generalize Y:Nat.log2 most=L at *;have am:2^L<=2^12:=Nat.pow_le_pow_right aa hl
  have hs:2^(L+1)=2*2^L:=by rw[Nat.pow_succ,Nat.mul_comm]
  have u:eg d q most=(if aq d q L<2^(L+1)-1-most then(aq d q L,L) else(if 2^L<=aq d q (L+1) then aq d q (L+1)-(2^(L+1)-1-most) else aq d q (L+1),L+1)):=by
   unfold eg;rw[Y]
   rfl
  have ab:1*2^(L+1)<2^63:=aa
  refine go ?_;rw[Nat.add_sub_cancel,Nat.one_mul];have ad:1*2^(L+1-1)<2^63:=by rw[Nat.add_sub_cancel];omega
  have aw:=aY d L q
  have al:=aY d (L+1) q
  have e1:aq d (q+L) 1=Cs d (q+L):=by rw[aq,aq];omega
  have O:=qO d L q
  refine ae (pu g p N t hd J M q false B L aa) ?_
  rintro v m (⟨C,rfl,rfl⟩|⟨C,rfl,rfl⟩)
  ·refine go ?_;refine ac rfl (fun hf=>?_) (fun hf=>?_)
   ·refine go ?_;exact af (cE [4] ([(g,_)]) (junk:=[]) (.inl (by rw[u,ai aa];exact⟨C,rfl,rfl⟩)) (.refl _))
   ·have h:=u.trans (ah aa)
    refine go ?_;refine ae (pu g p N t hd J M (q+L) false C 1 aa) ?_
    rintro v m (⟨r,rfl,rfl⟩|⟨r,rfl,rfl⟩)
    ·rw[e1];have H:=vp d (q+L)
     refine go ?_;refine bp (σ:=Nat) [] (fun y=>[(5,.int .i64 ((L+1:Nat):Int)),(6,.int .i64 ((2^(L+1)-1-most:Nat):Int)),(7,ay y)]) (fun _=>[(g,jv p N t (q+L+1) false)]) (fun y=>y=aq d q (L+1)) ?_ ?_
     ·refine ac rfl (fun hb=>?_) (fun hb=>?_)
      ·refine go ?_;rw[Nat.add_sub_cancel,Nat.one_mul];refine go ?_;exact⟨aq d q L+2^L,by rw[O,show Cs d (q+L)=1 from aa,Nat.mul_one],cF,.refl _⟩
      ·refine go ?_;exact⟨aq d q L,by rw[O,show Cs d (q+L)=0 from aa,Nat.mul_zero,Nat.add_zero],cF,.refl _⟩
     rintro y f rfl;refine go ?_;rw[Nat.add_sub_cancel,Nat.one_mul];refine ac rfl (fun k=>?_) (fun l=>?_)
     ·refine go ?_;exact af (cE [4] ([(g,_)]) (junk:=[]) (.inl (by rw[h,ai aa];exact⟨r,rfl,rfl⟩)) (.refl _))
     ·refine go ?_;exact af (cE [4] ([(g,_)]) (junk:=[]) (.inl (by rw[h,ah aa];exact⟨r,rfl,rfl⟩)) (.refl _))
    ·refine go ?_;rw[Nat.add_sub_cancel,Nat.one_mul];refine ac rfl (fun k=>?_) (fun l=>?_)
     ·refine go ?_;exact af (cE [4] ([(g,_)]) (junk:=[]) (.inr (by rw[h];exact⟨r,_,q+L,C,rfl,rfl⟩)) (.refl _))
     ·refine go ?_;exact af (cE [4] ([(g,_)]) (junk:=[]) (.inr (by rw[h];exact⟨r,_,q+L,C,rfl,rfl⟩)) (.refl _))
  ·have j:8*N<q+(eg d q most).2:=by
    rw[u];split<;>dsimp only<;>omega
   refine go ?_;refine ac rfl (fun hf=>?_) (fun hf=>?_)
   ·refine go ?_;exact af (cE [4] ([(g,_)]) (junk:=[]) (.inr ⟨j,0,q,B,rfl,rfl⟩) (.refl _))
   ·refine go ?_;refine ae (pu g p N t hd J M q true B 1 aa) ?_
    rintro v m (⟨r,rfl,rfl⟩|⟨r,rfl,rfl⟩)
    ·have e4:aq d q 1=Cs d q:=by rw[aq,aq];omega
     have H:=vp d q
     rw[e4];refine go ?_;refine bp (σ:=Nat) [] (fun y=>[(5,.int .i64 ((L+1:Nat):Int)),(6,.int .i64 ((2^(L+1)-1-most:Nat):Int)),(7,ay y)]) (fun _=>[(g,jv p N t (q+1) true)]) (fun y=>y<=2^L) ?_ ?_
     ·refine ac rfl (fun hb=>?_) (fun hb=>?_)
      ·refine go ?_;rw[Nat.add_sub_cancel,Nat.one_mul];refine go ?_;exact⟨0+2^L,aa,cF,.refl _⟩
      ·refine go ?_;exact⟨0,aa,cF,.refl _⟩
     intro y f hy;refine go ?_;rw[Nat.add_sub_cancel,Nat.one_mul];refine ac rfl (fun k=>?_) (fun l=>?_)
     ·refine go ?_;exact af (cE [4] ([(g,_)]) (junk:=[]) (.inr ⟨j,_,q+1,r,rfl,rfl⟩) (.refl _))
     ·refine go ?_;exact af (cE [4] ([(g,_)]) (junk:=[]) (.inr ⟨j,_,q+1,r,rfl,rfl⟩) (.refl _))
    ·refine go ?_;rw[Nat.add_sub_cancel,Nat.one_mul];refine ac rfl (fun k=>?_) (fun l=>?_)
     ·refine go ?_;exact af (cE [4] ([(g,_)]) (junk:=[]) (.inr ⟨j,_,q,B,rfl,rfl⟩) (.refl _))
     ·refine go ?_;exact af (cE [4] ([(g,_)]) (junk:=[]) (.inr ⟨j,_,q,B,rfl,rfl⟩) (.refl _))
theorem DN (g:Nat) (h:Option Addr) (N i:Nat) (k:N<=2^40) (q:Nat) (j:q<=8*N) (bad:Bool) :
  av Tryz.prog G 74 #[bf g] [(g,jv h N i q bad)] (fun v m=>v = .int .i64 ((q+7)/8:Nat)/\m=[(g,jv h N i q bad)]):=by
 refine bE Tryz.func74 fun c h0 hex=>?_
 refine go ?_
 exact af (cE [2] ([(g,_)]) (junk:=[]) ⟨rfl,rfl⟩ (.refl _))
def je (sh:Nat->Int):Nat->Value:=fun i=>.int .i64 (sh i)
structure Ko where
 q:Nat
 k:Nat
 left:Nat
 sh:Nat->Int
 c:Nat
 oa:Option Addr
 cp:Nat
 om:ao
 j:ao
structure Kq where
 i:Nat
 oa:Option Addr
 cp:Nat
 om:ao
 j:ao
theorem Ai {q j:Nat}:∀(K:Nat),j<=K->(∀i,i<j->aq d (q+2*i) 2=3)->j<=dC d q K:=by
 induction j generalizing q with
 | zero=>intros;exact Nat.zero_le _
 | succ j g =>
  intro K l h;obtain⟨K,rfl⟩:∃k,K=k+1:=⟨K-1,aa⟩
  rw[dC,ai (by have:=h 0 aa;simpa using this)]
  exact Nat.succ_le_succ (g (q:=q+2) K aa fun i hi=>by
   have:=h (i+1) aa
   rwa[show q+2*(i+1)=q+2+2*i from aa] at this)
theorem Aj {q j:Nat}:∀(K:Nat),j<K->(∀i,i<j->aq d (q+2*i) 2=3)->aq d (q+2*j) 2≠3->dC d q K=j:=by
 induction j generalizing q with
 | zero =>
  intro K l _ h;obtain⟨K,rfl⟩:∃g,K=g+1:=⟨K-1,aa⟩
  rw[dC,ah (by simpa using h)]
 | succ j k =>
  intro K l h p;obtain⟨K,rfl⟩:∃g,K=g+1:=⟨K-1,aa⟩
  rw[dC,ai (by have:=h 0 aa;simpa using this),k (q:=q+2) K aa (fun i hi=>by
   have:=h (i+1) aa
   rwa[show q+2*(i+1)=q+2+2*i from aa] at this) (by rwa[show q+2+2*j=q+2*(j+1) from aa])]
theorem DO {look:Bool} {N g:Nat} {q left:Nat} {sh:Nat->Int} {c:Nat} (hl:left≠0) (h:g<c):∀{k:Nat},bI look d N g k q left sh c=none
 | 0=>rfl
 | k+1=>by rw[bI,ah hl,ai h]
def Jx (log:Nat) (r:Option ((Nat->Int)×Nat×Nat)) (v:Value) (g:ao):Prop :=
 match r with
 | none=>v = .tuple #[.slice none 0 0,.int .i64 0,.int .i64 0,.bool false]
 | some (sh,c,q)=>∃out,v = .tuple #[out,ay log,.int .i64 ((q+7)/8:Nat),.bool true]/\dH 1 out c (je sh) g
structure Ky (d:Nat->Nat) (N mx:Nat) (E:Option ((Nat->Int)×Nat×Nat)) (t:Ko):Prop where
 q:t.q<=8*N
 k:mx+2<=t.c+t.k
 c:t.c<=mx+1
 left:t.left<=512
 z:∀i,t.c<=i->t.sh i=0
 sl:dH 1 (.slice t.oa t.c t.cp) t.c (je t.sh) t.om
 e:bI false d N mx t.k t.q t.left t.sh t.c=E
set_option maxHeartbeats 1000000 in
theorem Ak (C:Option Addr) (N u:Nat) (hd:∀i,d i<256) (hv:aU G C N u d) (hN:N<=2^40) (ml mx:Nat) (bs:ml<=9) (lW:mx<=255) :
  av Tryz.prog G 60 #[.slice C N u,ay ml,.int .i64 ((mx+1:Nat):Int)] [] (fun v J =>
   match eI false d N ml mx 0 with
   | none=>v = .tuple #[.slice none 0 0,.int .i64 0,.int .i64 0,.bool false]
   | some (log,sh,c,q)=>∃out,v = .tuple #[out,ay log,.int .i64 ((q+7)/8:Nat),.bool true]/\dH 1 out c (je sh) J):=by
 refine bE Tryz.func60 fun c h0 hex=>?_
 refine go ?_
 refine bU (vs:=[.slice C N u,.int .i64 0,.bool false]) rfl rfl z150 rfl rfl rfl rfl ?_
 refine kw rfl rfl rfl hex fun p bq=>?_
 refine go ?_
 refine bj (m':=[(p,jv C N u 0 false)]) ci ?_
 refine ae (pu p C N u hd hv hN 0 false (Nat.zero_le _) 4 aa) ?_
 unfold eI
 have bd:=aY d 4 0
 rintro v m (⟨g1,rfl,rfl⟩|⟨g1,rfl,rfl⟩)
 ·rw[ah (by rw[ah Bool.false_ne_true];omega)]
  dsimp only;generalize aq d 0 4=lg at *;refine go ?_;refine ac rfl (fun bm=>?_) (fun dE=>?_)
  ·rw[ai aa];refine go ?_;exact af (bx [6,7,8,9] rfl)
  have bc:2^(lg+5)<=2^9:=Nat.pow_le_pow_right aa aa
  have a8:1*2^(lg+5)<2^63:=aa
  rw[ah aa];generalize hE:bI false d N mx (mx+2) (0+4) (2^(lg+5)) (fun _=>0) 0=E
  have a1:∀v J,Jx (lg+5) E v J->(match E.map fun r=>(lg+5,r) with
   | none=>v = .tuple #[.slice none 0 0,.int .i64 0,.int .i64 0,.bool false]
   | some (log,sh,c,q)=>∃out,v = .tuple #[out,ay log,.int .i64 ((q+7)/8:Nat),.bool true]/\dH 1 out c (je sh) J):=by
   intro v J h
   cases E with
   | none=>exact h
   | some r=>exact h
  refine go ?_;rw[Nat.one_mul];refine aH (σ:=Ko) [] (fun t=>[(2,.int .i64 ((mx+1:Nat):Int)),(10,bf p),(11,.int .i64 ((lg+5:Nat):Int)),(12,.slice t.oa t.c t.cp),(13,ay t.left)]) (fun t=>(p,jv C N u t.q false)::(t.om++t.j))
   (Ky d N mx E) (fun t=>t.k) ⟨0+4,mx+2,2^(lg+5),fun _=>0,0,none,0,[],[]⟩ (.refl _) ⟨g1,by dsimp only;omega,Nat.zero_le _,by dsimp only;omega,fun _ _=>rfl,.inl ⟨rfl,rfl,rfl⟩,hE⟩ ?_
  clear hE bc a8 dE bd g1;rintro⟨q,k,left,sh,c1,oa,cq,J,j⟩ f ⟨iq,ik,ic,il,iz,ab,l⟩;dsimp only at iq ik ic il iz ab l ⊢;obtain⟨k,rfl⟩:∃k',k=k'+1:=⟨k-1,aa⟩
  rw[bI] at l;refine go ?_;refine ac rfl (fun hl=>?_) (fun hl=>?_)
  ·have ad:left≠0:=aa
   rw[ah ad] at l;dsimp only at l;refine go ?_;refine ae (Ga p C N u hd hv hN q iq (left+1) aa aa) ?_ (fm:=J++j) (hs:=.refl _)
   rintro v m (⟨g1,rfl,rfl⟩|⟨g1,y,q',g2,rfl,rfl⟩)
   ·refine go ?_;refine ac rfl (fun a2=>?_) (fun a9=>?_)
    ·rw[ai aa] at l;subst l;refine go ?_;exact af (bx [6,7,8,9] rfl)
    have bu:c1<=mx:=aa
    rw[ah aa,ah (by rw[ah Bool.false_ne_true];omega)] at l
    have ba:=o8 d q (most:=left+1) aa
    generalize eg d q (left+1)=r at *;obtain⟨y,w⟩:=r;dsimp only at g1 l ba ⊢;refine go ?_;refine au (z:=.int .i64 0) (vs:=[.int .i64 ((y:Int)-1)]) rfl rfl z3 rfl rfl rfl rfl hex fun sb bo=>?_
    refine go ?_;refine bg (s:=0) (src:=fun x=>(aj [.int .i64 ((y:Int)-1)] 3).g (0+x)) (k:=1) (len:=c1) (v:=.slice oa c1 cq) (cl:=je sh) (sm:=J) (fm:=(sb,aj [.int .i64 ((y:Int)-1)] 3)::(p,jv C N u (q+w) false)::j) rfl rfl rfl rfl z3 (by decide) rfl rfl ab
     an (k_.of (B:=aj [.int .i64 ((y:Int)-1)] 3) (by simp) (by show 0+1*(0+1)<=1;decide)) (fun x hx=>by rw[show x=0 from by have h:x<1:=hx;omega];rfl) aa hex rfl ?_
    intro v' om' H I
    obtain⟨W,U,rfl⟩:=bV H;have Y:dH 1 (.slice W (c1+1) U) (c1+1) (je (gx sh c1 ((y:Int)-1))) om':=bR H fun x hx=>by
     have hx:x<(c1+1)*(0+1):=hx
     unfold je gx;by_cases a6:x<c1
     ·rw[ai aa,ah aa]
     ·obtain rfl:x=c1:=aa;rw[ah aa,ai rfl,show x-x*(0+1)=0 from aa];rfl
    have a3:∀i,c1+1<=i->gx sh c1 ((y:Int)-1) i=0:=fun i hi=>by
     unfold gx;rw[ah aa];exact iz i aa
    refine bj (m':=(p,jv C N u (q+w) false)::(om'++((sb,aj [.int .i64 ((y:Int)-1)] 3)::j))) (.of_perm an) ?_
    clear H I;refine go ?_;refine Cz rfl rfl ?_
    rw[show IntKind.wrap .i64 (0-((y:Int)-1))=1-(y:Int) from(IntWalk.i64_in _ aa).trans aa];refine go ?_;refine rW rfl rfl rfl ?_
    obtain⟨K,hK⟩:∃K,K=((y:Int)-1).natAbs:=⟨_,rfl⟩
    rw[<- hK] at l;rw[show(if 1-(y:Int)>(y:Int)-1 then 1-(y:Int) else(y:Int)-1)=((K:Nat):Int) by split<;>omega]
    have br:K<=left:=aa
    refine go ?_;refine ac rfl (fun h=>absurd h aa) (fun _=>?_)
    refine go ?_;generalize gx sh c1 ((y:Int)-1)=sh' at *;refine aH (σ:=Kq) [] (fun t=>[(2,.int .i64 ((mx+1:Nat):Int)),(10,bf p),(11,.int .i64 ((lg+5:Nat):Int)),(12,.slice t.oa (c1+1+3*t.i) t.cp),(13,.int .i64 ((left-K:Nat):Int)),(15,.int .i64 ((y:Int)-1))]) (fun t=>(p,jv C N u (q+w+2*t.i) false)::(t.om++t.j))
     (fun t=>q+w+2*t.i<=8*N/\c1+1+3*t.i<=mx+1/\dH 1 (.slice t.oa (c1+1+3*t.i) t.cp) (c1+1+3*t.i) (je sh') t.om/\(0<t.i->y=1)/\∀m,m<t.i->aq d (q+w+2*m) 2=3) (fun t=>mx+1-t.i) ⟨0,W,U,om',(sb,aj [.int .i64 ((y:Int)-1)] 3)::j⟩ (.refl _) ⟨g1,by dsimp only;omega,Y,fun h=>absurd h (Nat.lt_irrefl _),fun m hm=>absurd hm (Nat.not_lt_zero _)⟩ ?_
    clear Y;rintro⟨i,aw,al,V,j2⟩ f ⟨zq,zc,M,zy,zf⟩;dsimp only at zq zc M zy zf ⊢;refine go ?_;refine ac rfl (fun hp=>?_) (fun hp=>?_)
    ·have hy:y=1:=aa
     subst hy;obtain rfl:K=0:=aa;rw[ai (by decide)] at l
     refine go ?_;refine ae (pu p C N u hd hv hN (q+w+2*i) false zq 2 aa) ?_ (fm:=V++j2) (hs:=.refl _)
     have bt:=aY d 2 (q+w+2*i)
     rintro v m (⟨g3,rfl,rfl⟩|⟨g3,rfl,rfl⟩)
     ·generalize F:aq d (q+w+2*i) 2=fn at *;refine go ?_;refine aH (σ:=Kq) [] (fun t=>[(2,.int .i64 ((mx+1:Nat):Int)),(10,bf p),(11,.int .i64 ((lg+5:Nat):Int)),(12,.slice t.oa (c1+1+3*i+t.i) t.cp),(13,.int .i64 ((left-0:Nat):Int)),(15,.int .i64 (((1:Nat):Int)-1)),(16,ay fn),(68,ay fn),(69,ay t.i)]) (fun t=>(p,jv C N u (q+w+2*i+2) false)::(t.om++t.j))
       (fun t=>t.i<=fn/\dH 1 (.slice t.oa (c1+1+3*i+t.i) t.cp) (c1+1+3*i+t.i) (je sh') t.om) (fun t=>fn-t.i) ⟨0,aw,al,V,j2⟩ (.refl _) ⟨Nat.zero_le _,M⟩ ?_
      clear M;rintro⟨x,ax,a0,am,j3⟩ f ⟨xi,O⟩;dsimp only at xi O ⊢;refine go ?_;refine ac rfl (fun hx=>?_) (fun hx=>?_)
      ·refine go ?_;refine au (z:=.int .i64 0) (vs:=[.int .i64 0]) rfl rfl z3 rfl rfl rfl rfl hex fun a4 be=>?_
       refine go ?_;refine bg (s:=0) (src:=fun x=>(aj [.int .i64 0] 3).g (0+x)) (k:=1) (len:=c1+1+3*i+x) (v:=.slice ax (c1+1+3*i+x) a0) (cl:=je sh') (sm:=am) (fm:=(a4,aj [.int .i64 0] 3)::(p,jv C N u (q+w+2*i+2) false)::j3) rfl rfl rfl rfl z3 (by decide) rfl rfl O
        an (k_.of (B:=aj [.int .i64 0] 3) (by simp) (by show 0+1*(0+1)<=1;decide)) (fun x hx=>by rw[show x=0 from by have h:x<1:=hx;omega];rfl) aa hex rfl ?_
       intro v' om' H I
       obtain⟨W,U,rfl⟩:=bV H;refine go ?_;refine⟨⟨x+1,W,U,om',(a4,aj [.int .i64 0] 3)::j3⟩,by dsimp only;omega,⟨by dsimp only;omega,bR H fun e he=>?_⟩,cF,.of_perm an⟩
       have he:e<(c1+1+3*i+x+1)*(0+1):=he
       by_cases a6:e<c1+1+3*i+x
       ·rw[ai aa]
       ·obtain rfl:e=c1+1+3*i+x:=aa;rw[ah aa,show c1+1+3*i+x-(c1+1+3*i+x)*(0+1)=0 from aa];unfold je;rw[a3 _ aa];rfl
      obtain rfl:x=fn:=aa;refine go ?_;refine ac rfl (fun a2=>?_) (fun a5=>?_)
      ·obtain rfl:E=none:=by
        by_cases h1:mx<c1+1
        ·rw[ai h1] at l;exact l.symm
        rw[ah h1] at l;by_cases h2:8*N<q+w+2*dC d (q+w) (4*N)+(if false=true then 16 else 2)
        ·rw[ai h2] at l;exact l.symm
        rw[ah h2,ai ?_] at l
        ·exact l.symm
        by_cases h3:x=3
        ·have:=Ai (d:=d) (q:=q+w) (j:=i+1) (4*N) aa fun m hm=>by
          by_cases he:m=i
          ·rw[he,F,h3]
          ·exact zf m aa
         omega
        ·rw[Aj (j:=i) (4*N) aa zf (by rw[F];exact h3),F]
         omega
       refine go ?_;exact af (bx [6,7,8,9] rfl)
      refine go ?_;refine ac rfl (fun h3=>?_) (fun h3=>?_)
      ·refine go ?_;refine⟨⟨q+w+2*i+2,k,left-0,sh',c1+1+3*i+x,ax,a0,am,j3⟩,by dsimp only;omega,⟨g3,by dsimp only;omega,by dsimp only;omega,by dsimp only;omega,fun e he=>a3 e (by dsimp only at he;omega),O,?_⟩,cF,.refl _⟩
       dsimp only;have a7:=Aj (d:=d) (q:=q+w) (j:=i) (4*N) aa zf (by rw[F];omega)
       rw[a7,F,ah (show ¬8*N<q+w+2*i+(if false=true then 16 else 2) by rw[ah Bool.false_ne_true];omega)] at l
       by_cases h4:mx<c1+1+3*i+x
       ·rw[DO aa h4,<- l];by_cases h1:mx<c1+1
        ·rw[ai h1]
        ·rw[ah h1,ai h4]
       ·rw[ah aa,ah h4] at l;exact l
      ·refine go ?_;exact⟨⟨i+1,ax,a0,am,j3⟩,by dsimp only;omega,⟨by dsimp only;omega,by dsimp only;omega,by
        dsimp only;rw[show c1+1+3*(i+1)=c1+1+3*i+x from aa];exact O,fun _=>rfl,fun m hm=>by
        dsimp only at hm;by_cases he:m=i
        ·rw[he,F];omega
        ·exact zf m aa⟩,⟨rfl,rfl,rfl,by
        dsimp only;rw[show c1+1+3*(i+1)=c1+1+3*i+x from aa];rfl,rfl,rfl,trivial⟩,by
        dsimp only;rw[show q+w+2*(i+1)=q+w+2*i+2 from aa];exact .refl _⟩
     ·obtain rfl:E=none:=by
       by_cases h1:mx<c1+1
       ·rw[ai h1] at l;exact l.symm
       have:=Ai (d:=d) (q:=q+w) (j:=i) (4*N) aa zf
       rw[ah h1,ai (by rw[ah Bool.false_ne_true];omega)] at l
       exact l.symm
      refine go ?_;refine aH (σ:=Unit) [] (fun _=>[(2,.int .i64 ((mx+1:Nat):Int)),(10,bf p),(11,.int .i64 ((lg+5:Nat):Int)),(12,.slice aw (c1+1+3*i) al),(13,.int .i64 ((left-0:Nat):Int)),(15,.int .i64 (((1:Nat):Int)-1)),(16,.int .i64 0),(68,.int .i64 0),(69,.int .i64 0)]) (fun _=>(p,jv C N u (q+w+2*i) true)::(V++j2)) (fun _=>True) (fun _=>0) () (.refl _) trivial ?_
      intro _ f _;refine go ?_;refine ac rfl (fun h=>absurd h (by decide)) (fun _=>?_)
      refine go ?_;exact af (bx [6,7,8,9] rfl)
    ·have hy:y≠1:=aa
     obtain rfl:i=0:=by
      by_cases h:0<i
      ·exact absurd (zy h) hy
      ·omega
     rw[ah aa] at l;refine go ?_;exact⟨⟨q+w,k,left-K,sh',c1+1,aw,al,V,j2⟩,by dsimp only;omega,⟨by dsimp only;omega,by dsimp only;omega,by dsimp only;omega,by dsimp only;omega,a3,M,l⟩,cF,.refl _⟩
   ·refine go ?_;obtain rfl:E=none:=by
     by_cases h:mx<c1
     ·rw[ai h] at l;exact l.symm
     ·rw[ah h,ai (by rw[ah Bool.false_ne_true];omega)] at l;exact l.symm
    exact af (bx [6,7,8,9] rfl)
  ·have ad:left=0:=aa
   rw[ai ad] at l;subst l;refine go ?_;refine ae (DN p C N u hN q iq false) ?_ (fm:=J++j) (hs:=.refl _)
   rintro v m ⟨rfl,rfl⟩;refine go ?_;exact af (ii [6,7,8,9] (J) (a1 _ _ ⟨_,rfl,ab⟩))
 ·rw[ai (by rw[ah Bool.false_ne_true];omega)]
  refine go ?_;exact af (bx [6,7,8,9] rfl)
end Go.Proofs.YtogmacnlpclgkaaGreatDoor
namespace Go.Proofs.YtogmacnlpclgkaaGreatDoor
open Go Go.Eng Go.Pz
inductive Ve (α:Type)
 | op
 | wr
 | ok (a:α)
def Ve.bind {α β:Type}:Ve α->(α->Ve β)->Ve β
 | .op,_=>.op
 | .wr,_=>.wr
 | .ok a,f=>f a
def Ve.of {α:Type}:Option α->Ve α
 | none=>.wr
 | some a=>.ok a
def aX (d:Nat->Nat) (k:Nat):Nat->Nat:=fun i=>d (k+i)
def G9 (d:Nat->Nat) (l:Int):Nat:=if 0<=l then Cs d l.toNat else 0
def kQ (d:Nat->Nat) (l:Int):Nat->Nat
 | 0=>0
 | n+1=>kQ d l n*2+G9 d (l-(n+1))
theorem fC (d:Nat->Nat) (l:Int):∀n,kQ d l n<2^n
 | 0=>Nat.one_pos
 | n+1=>by
  have h:=fC d l n
  have g:G9 d (l-(n+1))<2:=by
   unfold G9;split
   ·exact vp d _
   ·omega
  rw[kQ,Nat.pow_succ];omega
theorem iJ (d:Nat->Nat) (a:Nat):∀n,n<=a->kQ d a n=aq d (a-n) n
 | 0,_=>rfl
 | n+1,h=>by
  rw[kQ,iJ d a n aa,aq,show a-(n+1)+1=a-n from aa];unfold G9;rw[ai aa,show((a:Int)-(n+1)).toNat=a-(n+1) from aa];omega
theorem ut (d:Nat->Nat) (a:Nat):∀k,kQ d a (a+k)=aq d 0 a*2^k
 | 0=>by rw[Nat.add_zero,iJ d a a (aZ _),Nat.sub_self];simp
 | k+1=>by
  rw[<- Nat.add_assoc,kQ,ut d a k];unfold G9;rw[ah aa,Nat.pow_succ];rw[Nat.add_zero,Nat.mul_assoc]
structure jR where
 most:Nat
 tab:Nat->Nat
def d_ (w:Nat->Nat) (c:Nat):Option jR :=
 if((List.range c).any fun i=>decide (11<w i))=true then none
 else
  let mask:=aM w c 11
  if mask=0 then none
  else
   let tb:=Nat.log2 mask+1
   let left:=2^tb-mask
   let hb:=Nat.log2 left
   if 11<tb\/2^hb≠left then none
   else
    let w':=cV w c (hb+1)
    some ⟨tb,dP w' (c+1) tb (fun _=>0) (c+1)⟩
def pv (d:Nat->Nat) (n:Nat):Option ((Nat->Nat)×Nat) :=
 match eI false d n 6 255 0 with
 | none=>none
 | some (log,sh,c,q) =>
  let o:=(q+7)/8
  if n<=o then none
  else if d (n-1)=0 then none
  else
   let a:=dU d (n-1)
   if a<8*o+log+log then none
   else dh (aI sh c (2^log)) (aG sh c log) (bO sh c log) d o 256 (a-log-log) (aq d (a-log) log) (aq d (a-log-log) log) (fun _=>0) 0
def kR (d:Nat->Nat) (n:Nat):Option (jR×Nat) :=
 if n=0 then none
 else
  let size:=if d 0<128 then d 0 else(d 0-127+1)/2
  if n<1+size then none
  else if d 0<128 then
   match pv (aX d 1) (d 0) with
   | none=>none
   | some (w,c)=>(d_ w c).map fun t=>(t,1+size)
  else(d_ (fun i=>if i%2=0 then d (1+i/2)/16 else d (1+i/2)%16) (d 0-127)).map fun t=>(t,1+size)
def pH (t:jR) (d:Nat->Nat) (l:Int):Nat->Int
 | 0=>l
 | i+1=>pH t d l i-(t.tab (kQ d (pH t d l i) t.most)%256:Nat)
def IW (t:jR) (d:Nat->Nat) (l:Int) (i:Nat):Nat:=t.tab (kQ d (pH t d l i) t.most)/256
def kC (t:jR) (d:Nat->Nat) (n K:Nat):Ve (Nat->Nat) :=
 if n=0 then .op
 else if d (n-1)=0 then .wr
 else if pH t d (dU d (n-1)) K≠0 then .op
 else .ok (IW t d (dU d (n-1)))
def kS (t:jR) (d:Nat->Nat) (n:Nat) (size K:Nat):Ve (Nat->Nat) :=
 if n<size then .wr else if K=0 then .op else kC t d size K
def jX (t:jR) (d:Nat->Nat) (n K:Nat) (four:Bool):Ve (Nat->Nat) :=
 if four=false then kC t d n K
 else if K<6 then .op
 else if n<6 then .wr
 else
  let s1:=d 0+d 1*256
  let s2:=d 2+d 3*256
  let s3:=d 4+d 5*256
  let e:=(K+3)/4
  (kS t (aX d 6) (n-6) s1 e).bind fun h =>
  (kS t (aX d (6+s1)) (n-6-s1) s2 e).bind fun g =>
  (kS t (aX d (6+s1+s2)) (n-6-s1-s2) s3 e).bind fun L3 =>
  (kS t (aX d (6+s1+s2+s3)) (n-6-s1-s2-s3) (n-6-s1-s2-s3) (K-3*e)).bind fun L4 =>
  .ok fun i=>if i<e then h i else if i<e+e then g (i-e) else if i<e+e+e then L3 (i-(e+e)) else L4 (i-(e+e+e))
def lX (g:Option jR) (d:Nat->Nat) (n:Nat):Ve ((Nat×(Nat->Nat)×Nat)×Option jR) :=
 if n=0 then .wr
 else
  let f:=d 0/4%4
  if d 0%4<2 then
   let h:=if f=1 then 2 else if f=3 then 3 else 1
   if n<h then .wr
   else
    let K:=if f=1 then d 0/16+d 1*16 else if f=3 then d 0/16+d 1*16+d 2*4096 else d 0/8
    if 131072<K then .op
    else if d 0%4=1 then(if n<h+1 then .wr else .ok ((K,fun _=>d h,h+1),g))
    else if n<h+K then .wr else .ok ((K,aX d h,h+K),g)
  else
   let h:=di d
   if n<h.1 then .wr
   else if n<h.1+h.2.2 then .wr
   else
    (if d 0%4=2 then
     match kR (aX d h.1) h.2.2 with
     | none=>.wr
     | some (t,k)=>if t.tab 0%256<t.most then .op else .ok (some t,k)
    else .ok (g,0):Ve (Option jR×Nat)).bind fun r =>
    match r.1 with
    | none=>.wr
    | some t =>
     if 131072<h.2.1\/h.2.1=0 then .op
     else(jX t (aX d (h.1+r.2)) (h.2.2-r.2) h.2.1 (decide (f≠0))).bind fun L=>.ok ((h.2.1,L,h.1+h.2.2),some t)
structure dV where
 log:Nat
 sym:Nat->Nat
 bits:Nat->Nat
 base:Nat->Nat
def Ix (sh:Nat->Int) (c log:Nat):dV:=⟨log,aI sh c (2^log),aG sh c log,bO sh c log⟩
def yL (kind:Nat):List Int :=
 if kind=0 then[4,3,2,2,2,2,2,2,2,2,2,2,2,1,1,1,2,2,2,2,2,2,2,2,2,3,2,1,1,1,1,1,-1,-1,-1,-1]
 else if kind=1 then[1,1,1,1,1,1,2,2,2,1,1,1,1,1,1,1,1,1,1,1,1,1,1,1,-1,-1,-1,-1,-1]
 else[1,4,3,2,2,2,2,2,2,1,1,1,1,1,1,1,1,1,1,1,1,1,1,1,1,1,1,1,1,1,1,1,1,1,1,1,1,1,1,1,1,1,1,1,1,1,-1,-1,-1,-1,-1,-1,-1]
def BK (kind:Nat):Nat->Int:=fun i=>(yL kind).getD i 0
def fo (kind:Nat):dV:=Ix (BK kind) (yL kind).length (if kind=1 then 5 else 6)
def xx (t:Option dV) (kind mode:Nat) (d:Nat->Nat) (n:Nat):Option (dV×Nat) :=
 if mode=0 then some (fo kind,0)
 else if mode=1 then
  if n=0\/dF kind<d 0 then none
  else some (⟨0,fun _=>d 0,fun _=>0,fun _=>0⟩,1)
 else if mode=2 then(eI false d n (dD kind) (dF kind) 0).map fun r=>(Ix r.2.1 r.2.2.1 r.1,(r.2.2.2+7)/8)
 else t.map fun t=>(t,0)
def fp (t:Option dV) (kind mode:Nat) (d:Nat->Nat) (n:Nat):Ve (dV×Nat) :=
 match xx t kind mode d n with
 | none=>.wr
 | some (t,k)=>if mode=2/\n-k<2 then .op else .ok (t,k)
def gv (kind c:Nat):Nat×Nat:=if kind=1 then(2^c,c) else cg kind c
def sOff (v:Nat) (none:Bool) (o1 o2 o3:Nat):Nat×Nat×Nat×Nat :=
 if 3<v then(v-3,v-3,o1,o2)
 else
  let k:=v-1+if none then 1 else 0
  if k=1 then(o2,o2,o1,o3)
  else if k=2 then(o3,o3,o1,o2)
  else if k=3 then(o1-1,o1-1,o1,o2)
  else(o1,o1,o2,o3)
structure SQ where
 out:Nat->Nat
 ol:Nat
 lo:Nat
 o1:Nat
 o2:Nat
 o3:Nat
 a:Nat
 s0:Nat
 s1:Nat
 s2:Nat
section
variable (T0 T1 T2:dV) (d:Nat->Nat) (win most begin_:Nat) (TX:Nat->Nat) (tl:Nat)
def ko (last:Bool) (x:SQ):Ve SQ :=
 let c1:=gv 1 (T1.sym x.s1)
 let c2:=gv 2 (T2.sym x.s2)
 let c0:=gv 0 (T0.sym x.s0)
 if x.a<c1.2+c2.2+c0.2 then .wr
 else
  let v1:=c1.1+aq d (x.a-c1.2) c1.2
  let v2:=c2.1+aq d (x.a-c1.2-c2.2) c2.2
  let v0:=c0.1+aq d (x.a-c1.2-c2.2-c0.2) c0.2
  let a:=x.a-c1.2-c2.2-c0.2
  if tl-x.lo<v0 then .wr
  else
   let out:=fj x.out x.ol v0 fun i=>TX (x.lo+i)
   let ol:=x.ol+v0
   let r:=sOff v1 (decide (v0=0)) x.o1 x.o2 x.o3
   if r.1=0\/ol<r.1 then .wr
   else if win<r.1\/most<ol-begin_+v2 then .op
   else
    let x1:SQ:={ x with out:=iR out ol (fun _=>0) 0 r.1 v2,ol:=ol+v2,lo:=x.lo+v0,o1:=r.2.1,o2:=r.2.2.1,o3:=r.2.2.2,a:=a }
    if last then .ok x1
    else if a<T0.bits x.s0+T2.bits x.s2+T1.bits x.s1 then .wr
    else .ok { x1 with a:=a-T0.bits x.s0-T2.bits x.s2-T1.bits x.s1,s0:=T0.base x.s0+aq d (a-T0.bits x.s0) (T0.bits x.s0),s2:=T2.base x.s2+aq d (a-T0.bits x.s0-T2.bits x.s2) (T2.bits x.s2),s1:=T1.base x.s1+aq d (a-T0.bits x.s0-T2.bits x.s2-T1.bits x.s1) (T1.bits x.s1) }
def ip:Nat->SQ->Ve SQ
 | 0,x=>.ok x
 | k+1,x=>(ko T0 T1 T2 d win most begin_ TX tl (decide (k=0)) x).bind (ip k)
end
structure SS where
 out:Nat->Nat
 ol:Nat
 tree:Option jR
 t0:Option dV
 t1:Option dV
 t2:Option dV
 o1:Nat
 o2:Nat
 o3:Nat
def iw (s:SS) (T0 T1 T2:dV) (win most:Nat) (d:Nat->Nat) (n cnt:Nat) (TX:Nat->Nat) (tl:Nat):Ve SS :=
 if n=0 then .op
 else if d (n-1)=0 then .wr
 else
  let a:=dU d (n-1)
  if a<T0.log+T1.log+T2.log then .wr
  else
   (ip T0 T1 T2 d win most s.ol TX tl cnt ⟨s.out,s.ol,0,s.o1,s.o2,s.o3,a-T0.log-T1.log-T2.log,aq d (a-T0.log) T0.log,aq d (a-T0.log-T1.log) T1.log,aq d (a-T0.log-T1.log-T2.log) T2.log⟩).bind fun x =>
   if x.a≠0 then .op
   else if most<x.ol+(tl-x.lo)-s.ol then .op
   else .ok { s with out:=fj x.out x.ol (tl-x.lo) fun i=>TX (x.lo+i),ol:=x.ol+(tl-x.lo),t0:=some T0,t1:=some T1,t2:=some T2,o1:=x.o1,o2:=x.o2,o3:=x.o3 }
def jS (s:SS) (win most:Nat) (d:Nat->Nat) (n:Nat):Ve SS :=
 (lX s.tree d n).bind fun r =>
 let o:=r.1.2.2
 let tl:=r.1.1
 let TX:=r.1.2.1
 if n<=o then .wr
 else
  let h:=if d o=255 then 3 else if 128<=d o then 2 else 1
  if n<o+h then .wr
  else
   let cnt:=if h=3 then d (o+1)+d (o+2)*256+32512 else if h=2 then(d o-128)*256+d (o+1) else d o
   if cnt=0 then(if 1<h\/o+h<n\/most<tl then .op else .ok { s with out:=fj s.out s.ol tl TX,ol:=s.ol+tl,tree:=r.2 })
   else if n<=o+h then .wr
   else
    let md:=d (o+h)
    if md%4≠0 then .op
    else
     let p0:=o+h+1
     (fp s.t0 0 (md/64%4) (aX d p0) (n-p0)).bind fun j =>
     let p1:=p0+j.2
     (fp s.t1 1 (md/16%4) (aX d p1) (n-p1)).bind fun i =>
     let p2:=p1+i.2
     (fp s.t2 2 (md/4%4) (aX d p2) (n-p2)).bind fun g =>
     let p3:=p2+g.2
     iw { s with tree:=r.2 } j.1 i.1 g.1 win most (aX d p3) (n-p3) cnt TX tl
end Go.Proofs.YtogmacnlpclgkaaGreatDoor
namespace Go.Proofs.YtogmacnlpclgkaaGreatDoor
open Go Go.Eng Go.Pz
attribute [local irreducible] RO J av aO
set_option maxRecDepth 20000
variable {G:ao} {d:Nat->Nat}
def cI (h:Option Addr) (n g:Nat) (l:Int):bk:=aj [.slice h n g,.int .i64 l] 140
theorem Al (h:Option Addr) (n g:Nat) (l i:Int):((cI h n g l).st 1 (.int .i64 i)).obj=(cI h n g i).obj:=aW rfl rfl rfl rfl
theorem nt (g:Nat) (h:Option Addr) (N j:Nat) (hd:∀i,d i<256) (B:aU G h N j d) (I:N<=2^40) (l:Int) (hl:l<=8*N) (z : -(2^50)<=l) (n:Nat) (F:n<=40) :
  av Tryz.prog G 63 #[bf g,ay n] [(g,cI h N j l)] (fun v m=>v = .int .i64 (kQ d l n:Nat)/\m=[(g,cI h N j (l-n))]):=by
 refine bE Tryz.func63 fun c h0 hex=>?_
 refine go ?_
 refine aH (σ:=Nat) [] (fun i=>[(0,bf g),(5,.int .i64 (kQ d l i:Nat)),(6,ay n),(7,ay i)]) (fun i=>[(g,cI h N j (l-i))]) (fun i=>i<=n) (fun i=>n-i) 0 (.cons (by show _=_;rw[show l-((0:Nat):Int)=l from aa]) (.refl _)) (Nat.zero_le _) ?_
 intro i f hi
 have hb:=fC d l i
 have y:2^i<=2^40:=Nat.pow_le_pow_right aa aa
 refine go ?_
 refine ac rfl (fun u=>?_) (fun q=>?_)
 ·have p:kQ d l (i+1)=kQ d l i*2+G9 d (l-(i+1)):=rfl
  refine go ?_;refine ac rfl (fun r=>?_) (fun r=>?_)
  ·obtain⟨s,hs⟩:∃s:Nat,l-(i:Int)-1=(s:Int):=⟨(l-i-1).toNat,aa⟩
   rw[hs];refine bZ (m':=[(g,cI h N j (s:Nat))]) (.cons (Al _ _ _ _ _) (.refl _)) ?_
   have t:s/8<N:=aa
   obtain⟨b0,H,rfl⟩:=B.some aa;have k:=hd (s/8)
   have C:d (s/8)/2^(s%8)<256:=Nat.lt_of_le_of_lt (Nat.div_le_self _ _) k
   refine go ?_;refine⟨i+1,aa,aa,⟨rfl,?_,rfl,rfl,trivial⟩,.cons ?_ (.refl _)⟩
   ·show Value.int .i64 _=Value.int .i64 _
    congr 2
    rw[p];unfold G9;rw[ai aa,show(l-((i:Int)+1)).toNat=s from aa]
    rfl
   ·show _=_
    rw[show l-((i+1:Nat):Int)=(s:Int) from aa]
  ·refine go ?_;refine⟨i+1,aa,aa,⟨rfl,?_,rfl,rfl,trivial⟩,.cons ?_ (.refl _)⟩
   ·show Value.int .i64 _=Value.int .i64 _
    congr 2
    rw[p];unfold G9;rw[ah aa]
    rfl
   ·rw[show l-((i+1:Nat):Int)=l-i-1 from aa];exact Al _ _ _ _ _
 ·obtain rfl:i=n:=aa;refine go ?_;exact af (cE [4] ([(g,_)]) (junk:=[]) ⟨rfl,rfl⟩ (.refl _))
theorem oq (B:Option Addr) (N j:Nat) (hd:∀i,d i<256) (I:aU G B N j d) (U:N<=2^40) :
  av Tryz.prog G 62 #[.slice B N j] [] (fun v m =>
   if N=0\/d (N-1)=0 then v = .tuple #[.pointer none,.bool false] else ∃l,v = .tuple #[bf l,.bool true]/\m=[(l,cI B N j (dU d (N-1):Nat))]):=by
 refine bE Tryz.func62 fun c h0 hex=>?_
 by_cases u:N=0
 ·subst u;refine go ?_;exact af (bx [2,3] (by rw[ai (.inl rfl)];rfl))
 obtain⟨b0,C,rfl⟩:=I.some aa
 have k:=hd (N-1)
 refine go ?_
 refine aJ 8 rfl (fun h=>absurd h aa) (fun _=>?_)
 refine go ?_
 refine ac rfl (fun M=>?_) (fun M=>?_)
 ·refine go ?_;exact af (bx [2,3] (by rw[ai (.inr aa)];rfl))
 have y:d (N-1)≠0:=aa
 refine go ?_
 refine aH (σ:=Nat) [] (fun i=>[(0,.slice (some ⟨b0,C,none⟩) N j),(4,ay i)]) (fun _=>[]) (fun i=>i<=7/\d (N-1)<2^(i+1)) (fun i=>i) 7 (.refl _) ⟨aZ _,k⟩ ?_
 rintro i f ⟨hi,t⟩
 have O:d (N-1)/2^i<256:=Nat.lt_of_le_of_lt (Nat.div_le_self _ _) k
 refine go ?_
 refine ac rfl (fun r=>?_) (fun r=>?_)
 ·have g:d (N-1)/2^i=0:=aa
  have p:d (N-1)<2^i:=(Nat.div_eq_zero_iff_lt (Nat.two_pow_pos i)).1 g
  have K:i≠0:=by
   rintro rfl;have:2^0=1:=rfl
   omega
  obtain⟨i,rfl⟩:∃J,i=J+1:=⟨i-1,aa⟩
  refine go ?_;exact⟨i,aa,⟨aa,p⟩,⟨rfl,by show Value.int _ _=Value.int _ _;congr 1,trivial⟩,.refl _⟩
 ·have g:d (N-1)/2^i≠0:=aa
  have F:2^i<=d (N-1):=by
   by_cases h:2^i<=d (N-1)
   ·exact h
   ·exact absurd (Nat.div_eq_of_lt aa) g
  have q:Nat.log2 (d (N-1))=i:=(Nat.log2_eq_iff y).2 ⟨F,t⟩
  refine go ?_;refine bU (vs:=[.slice (some ⟨b0,C,none⟩) N j,.int .i64 ((8*(N-1)+i:Nat):Int)]) rfl rfl z140 rfl rfl rfl rfl ?_
  refine kw rfl rfl rfl hex fun l H=>?_
  refine go ?_;refine af ?_;exact ag [2,3] (post:=[(l,cI (some ⟨b0,C,none⟩) N j ((8*(N-1)+i:Nat):Int))]) (junk:=[]) (by
   rw[ah aa];exact⟨l,rfl,by unfold dU;rw[q]⟩) rfl ci
end Go.Proofs.YtogmacnlpclgkaaGreatDoor
