/- Texts P21. -/
import Derived.Test.YtogmacnlpclgkaaGreatDoorX37
set_option linter.all false
namespace Go.Proofs.YtogmacnlpclgkaaGreatDoor
open Go Go.Eng Go.Pz
set_option maxRecDepth 20000
variable {dat:Nat->Nat} {N:Nat}
section
variable {E:Type} {ini:E->E} {cmp:PS E->Nat->PS E×Bool}
theorem Cl {p:PS E} (h:(d9 dat N ini p).2=1):(d9 dat N ini p).1={ p with pos:=N,one:=true }:=by
 unfold d9 at h ⊢
 split at h
 ·dsimp only at h ⊢;split at h
  ·rename_i hc
   rw[hc.2]
  ·exact absurd h (by decide)
 ·exact absurd (show(2:Nat)=1 from h) (by decide)
 ·exact absurd (show(2:Nat)=1 from h) (by decide)
 ·exact absurd (show(0:Nat)=1 from h) (by decide)
theorem Cm {p:PS E} (h:p.pos=N) (g:p.one=true):d9 dat N ini p=(p,1):=by
 obtain⟨pos,j,sum,one,l,r,S,bl,off,L,wl,q,t,u,e⟩:=p
 dsimp only at h g
 subst h g
 have k:∀f,bF dat pos f pos=pos:=fun f=>by
  cases f with
  | zero=>rfl
  | succ f =>
   rw[bF,ah];unfold ck e_;rw[decide_eq_false (by omega:¬4<=pos-pos)]
   simp
 unfold d9
 have i:dA dat pos pos = .short:=by unfold dA;rw[ai aa]
 dsimp only
 rw[k,i]
 dsimp only
 rw[ai ⟨Nat.sub_self _,rfl⟩]
 rfl
theorem y_ {p:PS E} (h:(bB dat N ini cmp p).2=1):p.saw=false/\(bB dat N ini cmp p).1={ p with pos:=N,one:=true }:=by
 unfold bB at h ⊢
 split at h
 ·dsimp only at h;split at h
  ·exact absurd h (by decide)
  ·exact absurd h (by decide)
 ·rename_i h0
  rw[ah h0];unfold fI at h h0 ⊢
  by_cases hs:p.saw=true
  ·rw[ai hs] at h;exact absurd (show(0:Nat)=1 from h) (by decide)
  ·rw[ah hs] at h ⊢;exact⟨by simpa using hs,Cl h⟩
theorem zd {p:PS E} (h0:p.saw=false) (g:p.pos=N) (i:p.one=true):bB dat N ini cmp p=(p,1):=by
 have h:fI dat N ini p=(p,1):=by
  unfold fI;rw[ah (by rw[h0];decide)]
  exact Cm g i
 unfold bB
 rw[h,ah (show ¬(1:Nat)=0 by decide)]
theorem tj:∀(f:Nat) {p:PS E},(bh dat N ini cmp f p).2=1->¬(bh dat N ini cmp f p).1.off<(bh dat N ini cmp f p).1.bl/\(bh dat N ini cmp f p).1.saw=false/\(bh dat N ini cmp f p).1.pos=N/\(bh dat N ini cmp f p).1.one=true
 | 0,_,h=>absurd h (by show ¬(2:Nat)=1;decide)
 | f+1,p,h=>by
  rw[gp] at h ⊢;by_cases g:p.off<p.bl
  ·rw[ai g] at h;exact absurd (show(0:Nat)=1 from h) (by decide)
  ·rw[ah g] at h ⊢;by_cases i:(bB dat N ini cmp p).2=0
   ·rw[ai i] at h ⊢;exact tj f h
   ·rw[ah i] at h ⊢;obtain⟨j,k⟩:=y_ h;rw[k];exact⟨g,j,rfl,rfl⟩
theorem AL {p:PS E} (h:(bh dat N ini cmp (N+1) p).2=1):Rem dat N ini cmp (bh dat N ini cmp (N+1) p).1 [] 1:=by
 obtain⟨k,g,i,j⟩:=tj (N+1) h
 generalize (bh dat N ini cmp (N+1) p).1=q at k g i j
 have e:bh dat N ini cmp (N+1) q=(q,1):=by
  have l:=zd (dat:=dat) (N:=N) (ini:=ini) (cmp:=cmp) g i j
  rw[gQ dat N ini cmp q k (by rw[l];show ¬(1:Nat)=0;decide),l]
 have:=Rem.stop (dat:=dat) (N:=N) (ini:=ini) (cmp:=cmp) q (by rw[e];show ¬(1:Nat)=0;decide)
 rwa[e] at this
theorem xV (n:Nat) (p:PS E):(a_ dat N ini cmp n p).2.2=(bh dat N ini cmp (N+1) p).2:=by
 unfold a_
 split
 ·rename_i h;exact h.symm
 ·rfl
theorem xW (p:PS E):(dS dat N ini cmp p).2.1=(bh dat N ini cmp (N+1) p).2:=by
 unfold dS
 split
 ·rename_i h;exact h.symm
 ·rfl
end
theorem nC {p:PS CE} {T:List Nat} {v:Nat} (h:gk dat N p T v) (z:Int) :
  ((im dat N p z).2.2.1=0/\(im dat N p z).2.1<=T.length/\(∀i,i<(im dat N p z).2.1->T[i]? = some ((im dat N p z).2.2.2 i))/\T≠[]/\(z<0->(im dat N p z).2.1=1)/\gk dat N (im dat N p z).1 (T.drop (im dat N p z).2.1) v) \/
  ((im dat N p z).2.2.1=v/\T=[]/\(im dat N p z).2.1=0/\(v=1->gk dat N (im dat N p z).1 [] 1)):=by
 unfold im
 by_cases t:z<0
 ·rw[ai t];dsimp only;rcases Et (fh dat N) h with⟨g,T',rfl,k⟩|⟨g,k,j,q⟩
  ·left
   rw[ai g];refine⟨g,by simp,fun i hi=>?_,by simp,fun _=>rfl,k⟩
   obtain rfl:i=0:=aa
   rfl
  ·right
   rw[ah (by rw[g];exact k)]
   refine⟨g,j,rfl,fun l=>?_⟩
   rw[q];exact AL (by rw[<- xW,g,l])
 ·rw[ah t];dsimp only;rcases td (fh dat N) h z.toNat with⟨g,_,j,_,r,u,y⟩|⟨g,k,j,q,r⟩
  ·exact .inl ⟨g,j,r,u,fun h=>absurd h t,y⟩
  ·refine .inr ⟨g,j,q,fun l=>?_⟩
   rw[r];exact AL (by rw[<- xV z.toNat,g,l])
def iu (dat:Nat->Nat) (N:Nat) (p:PS CE) (z:Nat->Int):Nat->Nat
 | 0=>0
 | i+1=>iu dat N p z i+(im dat N (cZ dat N p z i) (z i)).2.1
def qv (dat:Nat->Nat) (N:Nat) (p:PS CE) (z:Nat->Int):Nat->Bool
 | 0=>false
 | i+1=>qv dat N p z i||decide ((im dat N (cZ dat N p z i) (z i)).2.2.1=1)
theorem gW {p:PS CE} {T:List Nat} (h:gk dat N p T 1) (z:Nat->Int):∀i,gk dat N (cZ dat N p z i) (T.drop (iu dat N p z i)) 1/\iu dat N p z i<=T.length/\(qv dat N p z i=true->iu dat N p z i=T.length)
 | 0=>⟨h,Nat.zero_le _,fun h=>by cases h⟩
 | i+1=>by
  obtain⟨l,t,q⟩:=gW h z i;show gk dat N (im dat N (cZ dat N p z i) (z i)).1 (T.drop (iu dat N p z i+(im dat N (cZ dat N p z i) (z i)).2.1)) 1/\iu dat N p z i+(im dat N (cZ dat N p z i) (z i)).2.1<=_/\((qv dat N p z i||decide ((im dat N (cZ dat N p z i) (z i)).2.2.1=1))=true->iu dat N p z i+(im dat N (cZ dat N p z i) (z i)).2.1=_)
  rcases nC l (z i) with⟨a1,g,k,a4,y,r⟩|⟨a1,g,k,a4⟩
  ·rw[List.length_drop] at g;refine⟨by rw[<- List.drop_drop];exact r,aa,fun j=>?_⟩
   rw[a1] at j;have:=q (by simpa using j)
   exact absurd (List.drop_eq_nil_of_le (Nat.le_of_eq this.symm)) a4
  ·have u:T.length<=iu dat N p z i:=List.drop_eq_nil_iff.1 g
   rw[k];exact⟨by rw[Nat.add_zero,g];exact a4 rfl,aa,fun _=>aa⟩
theorem q9 {p:PS CE} {T:List Nat} (h:gk dat N p T 2) (z:Nat->Int):∀i,(∀j,j<i->(im dat N (cZ dat N p z j) (z j)).2.2.1=0)->∃T',gk dat N (cZ dat N p z i) T' 2
 | 0,_=>⟨T,h⟩
 | i+1,hj=>by
  obtain⟨T',k⟩:=q9 h z i fun j g=>hj j aa
  rcases nC k (z i) with⟨_,_,_,_,_,l⟩|⟨a1,_,_,_⟩
  ·exact⟨_,l⟩
  ·have:=hj i aa
   omega
theorem q_ {p:PS CE} {T:List Nat} (h:gk dat N p T 1) {z:Nat->Int}:∀i,(∀j,j<i->z j<0)->iu dat N p z i=min i T.length
 | 0,_=>by rw[Nat.zero_min];rfl
 | i+1,hz=>by
  have u:=q_ h i fun j r=>hz j aa
  obtain⟨k,t,_⟩:=gW h z i;show iu dat N p z i+(im dat N (cZ dat N p z i) (z i)).2.1=_
  rcases nC k (z i) with⟨a1,g,l,a4,q,A⟩|⟨a1,g,l,a4⟩
  ·have:=q (hz i aa)
   rw[List.length_drop] at g;omega
  ·have y:T.length<=iu dat N p z i:=List.drop_eq_nil_iff.1 g
   omega
theorem EP {p:PS CE} {T:List Nat} (h:gk dat N p T 1) (z:Nat->Int) (i:Nat):(im dat N (cZ dat N p z i) (z i)).2.2.1<=1/\(qv dat N p z i=true->(im dat N (cZ dat N p z i) (z i)).2.1=0/\(im dat N (cZ dat N p z i) (z i)).2.2.1=1) /\
  iu dat N p z i+(im dat N (cZ dat N p z i) (z i)).2.1<=T.length/\(∀j,j<(im dat N (cZ dat N p z i) (z i)).2.1->T[iu dat N p z i+j]? = some ((im dat N (cZ dat N p z i) (z i)).2.2.2 j)) /\
  ((qv dat N p z i||decide ((im dat N (cZ dat N p z i) (z i)).2.2.1=1))=true->iu dat N p z i+(im dat N (cZ dat N p z i) (z i)).2.1=T.length):=by
 obtain⟨y,A,t⟩:=gW h z i
 obtain⟨_,k,l⟩:=gW h z (i+1)
 rcases nC y (z i) with⟨a1,u,g,a4,C,B⟩|⟨a1,u,g,a4⟩
 ·refine⟨aa,fun r=>absurd (List.drop_eq_nil_of_le (Nat.le_of_eq (t r).symm)) a4,k,fun j q=>?_,l⟩
  rw[<- g j q,List.getElem?_drop]
 ·exact⟨aa,fun _=>⟨g,a1⟩,k,fun j q=>aa,l⟩
theorem EQ {p:PS CE} {T:List Nat} (h:gk dat N p T 1) (z:Nat->Int) (i:Nat) (q:∀j,j<=i->z j<0) :
  (i<T.length->(im dat N (cZ dat N p z i) (z i)).2.1=1/\(im dat N (cZ dat N p z i) (z i)).2.2.1=0/\T[i]? = some ((im dat N (cZ dat N p z i) (z i)).2.2.2 0)) /\
  (T.length<=i->(im dat N (cZ dat N p z i) (z i)).2.1=0/\(im dat N (cZ dat N p z i) (z i)).2.2.1=1):=by
 have e:=q_ h i fun j B=>q j aa
 obtain⟨t,u,y⟩:=gW h z i
 rcases nC t (z i) with⟨a1,l,g,a4,k,A⟩|⟨a1,l,g,a4⟩
 ·have r:¬T.length<=iu dat N p z i:=fun h=>a4 (List.drop_eq_nil_of_le h)
  have k:=k (q i (aZ _))
  refine⟨fun hi=>⟨k,a1,?_⟩,fun hi=>aa⟩
  have:=g 0 aa
  rw[List.getElem?_drop,e] at this;rw[<- this]
  congr 1;omega
 ·have r:T.length<=iu dat N p z i:=List.drop_eq_nil_iff.1 l
  exact⟨fun hi=>aa,fun _=>⟨g,a1⟩⟩
end Go.Proofs.YtogmacnlpclgkaaGreatDoor
