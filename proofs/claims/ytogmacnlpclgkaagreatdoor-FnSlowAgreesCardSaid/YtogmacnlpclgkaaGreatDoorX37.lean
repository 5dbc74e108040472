/- Texts 37. -/
import Derived.Test.YtogmacnlpclgkaaGreatDoorX36
set_option linter.all false
namespace Go.Proofs.YtogmacnlpclgkaaGreatDoor
open Go Go.Eng Go.Pz
set_option maxRecDepth 20000
variable {dat:Nat->Nat} {N:Nat}
theorem EE (x:Nat->Nat) (p q n:Nat):gO (aX x p) q n=gO x (p+q) n:=by
 unfold gO aX;simp only[Nat.add_assoc]
theorem EF (x:Nat->Nat) (d p q:Nat):eW (aX x p) d q=eW x d (p+q):=by
 unfold eW v5 l7 eX aX
 simp only[Nat.add_assoc]
theorem xQ (x:Nat->Nat) (p q:Nat):bw (aX x p) q=bw x (p+q):=by
 unfold bw eX aX
 simp only[Nat.add_assoc]
theorem EG {a:Nat} (u:¬N-a<5) (r:bw dat a=4247762216) :
  match jo (aX dat a) (N-a) with
  | .op=>True
  | .wr=>∃b pos,dA dat N a = .bad b pos
  | .ok (size,win,z)=>dA dat N a = .ok (dg (dat (a+4))) (bC (dat (a+4)) != 0) size win (a+z)/\win<=8388608:=by
 have q:dA dat N a=(if dat (a+4)/8%2=1 then .bad none (a+5)
   else if N-(a+5)<cJ (dat (a+4)) then .bad (some (dg (dat (a+4)))) N
   else if gO dat (a+5+aQ (dat (a+4))) (aB (dat (a+4)))=false then .bad (some (dg (dat (a+4)))) (a+5+cJ (dat (a+4)))
   else .ok (dg (dat (a+4))) (bC (dat (a+4)) != 0) (eW dat (dat (a+4)) (a+5+aQ (dat (a+4))+aB (dat (a+4)))) (min 8388608 (if aD (dat (a+4))=true then eW dat (dat (a+4)) (a+5+aQ (dat (a+4))+aB (dat (a+4))) else cj (dat (a+5)))) (a+5+cJ (dat (a+4)))):=by
  unfold dA;rw[ah (show ¬N-a<4 from aa),ah (show ¬bw dat a≠4247762216 from fun h=>h r),ah (show ¬N-(a+4)<1 from aa)]
 rw[q]
 unfold jo
 have t:aX dat a 4=dat (a+4):=rfl
 have p:aX dat a 5=dat (a+5):=rfl
 rw[t,p]
 dsimp only
 by_cases g:dat (a+4)/8%2=1
 ·rw[ai g,ai g];exact⟨_,_,rfl⟩
 rw[ah g,ah g]
 by_cases l:N-a<5+cJ (dat (a+4))
 ·rw[ai l,ai (show N-(a+5)<cJ (dat (a+4)) from aa)];exact⟨_,_,rfl⟩
 rw[ah l,ah (show ¬N-(a+5)<cJ (dat (a+4)) from aa),EE,EF]
 rw[show a+(5+aQ (dat (a+4)))=a+5+aQ (dat (a+4)) from aa,show a+(5+aQ (dat (a+4))+aB (dat (a+4)))=a+5+aQ (dat (a+4))+aB (dat (a+4)) from aa]
 by_cases i:gO dat (a+5+aQ (dat (a+4))) (aB (dat (a+4)))=false
 ·rw[ai i,ai i];exact⟨_,_,rfl⟩
 rw[ah i,ah i]
 by_cases k:bC (dat (a+4))=8/\64<=aX dat a (5+aQ (dat (a+4))+aB (dat (a+4))+7)
 ·rw[ai k];trivial
 rw[ah k]
 generalize eW dat (dat (a+4)) (a+5+aQ (dat (a+4))+aB (dat (a+4)))=sz
 generalize (if aD (dat (a+4))=true then sz else cj (dat (a+5)))=w
 by_cases j:8388608<w
 ·rw[ai j];trivial
 rw[ah j,Nat.min_eq_right aa,Nat.add_assoc a 5]
 exact⟨rfl,aa⟩
theorem ny {x:Nat->Nat} {n p:Nat} (h:ck x n p=true):p+8+bw x (p+4)<=n:=by
 unfold ck e_ at h
 simp only[Bool.and_eq_true,decide_eq_true_eq] at h
 omega
theorem uF {x:Nat->Nat} {n:Nat}:∀(f p:Nat),n-p<=f->∀i,n-p<=i->bF x n f p=bF x n i p
 | 0,p,h,0,_=>rfl
 | 0,p,h,i+1,_=>by
  rw[bF,bF];by_cases g:ck x n p=true
  ·have:=ny g;omega
  ·rw[ah g]
 | f+1,p,h,0,h'=>by
  rw[bF,bF];by_cases g:ck x n p=true
  ·have:=ny g;omega
  ·rw[ah g]
 | f+1,p,h,i+1,h'=>by
  rw[bF,bF];by_cases g:ck x n p=true
  ·have:=ny g
   rw[ai g,ai g];exact uF f _ aa i aa
  ·rw[ah g,ah g]
theorem AG {x:Nat->Nat} {n p:Nat} (h:ck x n p=false):∀(f:Nat),bF x n f p=p
 | 0=>rfl
 | f+1=>by rw[bF,h];rfl
theorem EH {a k:Nat} {q:PS CE} (g:ck dat N a=true) (p:k=a+8+bw dat (a+4)) (y:q.saw=false) (u:q.pos=a) (j:¬q.off<q.bl) {T:List Nat} {v:Nat} (h:gk dat N { q with pos:=k,one:=true } T v):gk dat N q T v:=by
 have A:=ny g
 have r:bF dat N N a=bF dat N N k:=by
  cases N with
  | zero=>omega
  | succ n =>
   rw[bF,ai g,p];exact uF n _ aa (n+1) aa
 have l:=pT dat N N k
 have z:d9 dat N CE.ini q=d9 dat N CE.ini { q with pos:=k,one:=true }:=by
  unfold d9;dsimp only;rw[u,r,decide_eq_true (show bF dat N N k≠a from aa)];simp only[Bool.or_true,Bool.true_or]
 have t:bB dat N CE.ini (bG dat N) q=bB dat N CE.ini (bG dat N) { q with pos:=k,one:=true }:=by
  have i:¬q.saw=true:=by rw[y];decide
  unfold bB fI;dsimp only;rw[ah i,ah i,z]
 refine Rem.need ?_ h
 rw[gp dat N CE.ini (bG dat N) N q,gp dat N CE.ini (bG dat N) N { q with pos:=k,one:=true },ah j,ah j,t]
theorem pE {a:Nat} {q:PS CE} (j:ck dat N a=false) (t:a<N) (p:q.saw=false) (k:q.pos=a) (r:¬q.off<q.bl) (h:dA dat N a = .short\/∃b pos,dA dat N a = .bad b pos):gk dat N q [] 2:=by
 have g:(d9 dat N CE.ini q).2=2:=by
  unfold d9;rw[k,AG j];rcases h with h|⟨b,pos,h⟩
  ·rw[h];dsimp only;rw[ah aa]
  ·rw[h]
   cases b<;>rfl
 have i:(bB dat N CE.ini (bG dat N) q).2=2:=by
  have l:fI dat N CE.ini q=d9 dat N CE.ini q:=by unfold fI;rw[ah (show ¬q.saw=true by rw[p];decide)]
  unfold bB;rw[l,ah (show ¬(d9 dat N CE.ini q).2=0 by rw[g];decide)]
  exact g
 have:=s_ (ini:=CE.ini) (cmp:=bG dat N) r (by rw[i];decide)
 rwa[i] at this
theorem EI {e:CE}:yW e.ini SS.zero:=⟨rfl,trivial,trivial,trivial,rfl,rfl,rfl,by decide,by decide⟩
theorem uG (hd:∀i,dat i<256) {a room:Nat} {q:PS CE} (F:a<N) (u:q.saw=false) (y:q.pos=a) (g:¬q.off<q.bl) :
  match gy (aX dat a) (N-a) room with
  | .op=>True
  | .wr=>∃T,T.length<=room/\gk dat N q T 2
  | .ok (O,l,z)=>l<=room/\0<z/\a+z<=N/\∃K,JS (a+z) K/\∀T v,gk dat N K T v->gk dat N q (txt O 0 l++T) v:=by
 have hm:∀p,bw dat p<4294967296:=fun p=>Da fun i=>hd _
 have ab:=hm a
 unfold gy
 rw[xQ,xQ,Nat.add_zero]
 by_cases C:N-a<4
 ·rw[ai C];exact⟨[],Nat.zero_le _,pE (by unfold ck e_;rw[decide_eq_false aa];rfl) F u y g (.inl (by unfold dA;rw[ai C]))⟩
 rw[ah C]
 by_cases hs:bw dat a/16*16=407710288
 ·rw[ai hs];have H:e_ dat N a=true:=by
   unfold e_;rw[decide_eq_true (show 4<=N-a from aa),decide_eq_true (show 407710288<=bw dat a from aa),decide_eq_true (show bw dat a<=407710303 from aa)]
   rfl
  have j:ck dat N a=false->gk dat N q [] 2:=fun hw=>pE hw F u y g (.inr ⟨none,N,by
   unfold dA;rw[ah C,ai aa,ai H]⟩)
  by_cases W:N-a<8
  ·rw[ai W];exact⟨[],Nat.zero_le _,j (by unfold ck;rw[decide_eq_false (show ¬4+bw dat (a+4)<=N-(a+4) from aa),Bool.and_false])⟩
  rw[ah W];by_cases Y:N-a<8+bw dat (a+4)
  ·rw[ai Y];exact⟨[],Nat.zero_le _,j (by unfold ck;rw[decide_eq_false (show ¬4+bw dat (a+4)<=N-(a+4) from aa),Bool.and_false])⟩
  rw[ah Y];refine⟨Nat.zero_le _,aa,aa,{ q with pos:=a+8+bw dat (a+4),one:=true },⟨u,by dsimp only;omega,g,rfl⟩,fun T v U=>?_⟩
  rw[lN,List.nil_append];exact EH (k:=a+8+bw dat (a+4)) (by unfold ck;rw[H,decide_eq_true (show 4+bw dat (a+4)<=N-(a+4) from aa)];rfl) rfl u y g U
 rw[ah hs]
 have r:ck dat N a=false:=by
  unfold ck e_;by_cases M:407710288<=bw dat a
  ·rw[decide_eq_false (show ¬bw dat a<=407710303 from aa)];simp
  ·rw[decide_eq_false M];simp
 by_cases hx:bw dat a≠4247762216\/N-a<5
 ·rw[ai hx];refine⟨[],Nat.zero_le _,pE r F u y g (.inr ?_)⟩
  unfold dA;rw[ah C];by_cases B:bw dat a≠4247762216
  ·rw[ai B];split<;>exact⟨_,_,rfl⟩
  ·rw[ah B,ai aa];exact⟨_,_,rfl⟩
 rw[ah hx]
 have hx1:bw dat a=4247762216:=by
  by_cases h:bw dat a=4247762216
  ·exact h
  ·exact absurd (.inl h) hx
 have A:=EG (dat:=dat) (N:=N) (a:=a) (fun h=>hx (.inr h)) hx1
 have e4:aX dat a 4=dat (a+4):=rfl
 rw[e4]
 cases hr:jo (aX dat a) (N-a) with
 | op=>trivial
 | wr =>
  rw[hr] at A;exact⟨[],Nat.zero_le _,pE r F u y g (.inr A)⟩
 | ok R =>
  rw[hr] at A;obtain⟨size,win,z⟩:=R;obtain⟨A,J⟩:=A;dsimp only[Ve.bind];generalize V:(if aD (dat (a+4))=true then 131072 else min 131072 win)=most;have t:most<=131072:=by rw[<- V];split<;>omega
  have I:fI dat N CE.ini q=({ q with pos:=a+z,saw:=true,sum:=dg (dat (a+4)),one:=true,unk:=!(bC (dat (a+4)) != 0),rem:=size,wl:=0,wsz:=win,XN:=0,e:=q.e.ini },0):=by
   unfold fI;rw[ah (by rw[u];decide)]
   unfold d9;rw[y,AG r,A]
  have hf:FR a win (bC (dat (a+4)) != 0) (dg (dat (a+4))) size z SS.zero { q with pos:=a+z,saw:=true,sum:=dg (dat (a+4)),one:=true,unk:=!(bC (dat (a+4)) != 0),rem:=size,wl:=0,wsz:=win,XN:=0,e:=q.e.ini } :=
   ⟨EI,⟨Nat.zero_le _,.inl rfl,Nat.zero_le _,fun i hi=>absurd hi (Nat.not_lt_zero _)⟩,rfl,rfl,rfl,rfl,rfl,fun _=>rfl,fun _=>rfl,fun _ i hi=>absurd hi (Nat.not_lt_zero _),g,rfl⟩
  have hb:=ED (room:=room) hd J t (Nat.le_of_lt F) (N-a) z SS.zero _ hf (Nat.zero_le _)
  cases hB:fq (aX dat a) (N-a) room win most (bC (dat (a+4)) != 0) (dg (dat (a+4))) size (N-a) z SS.zero with
  | op=>trivial
  | wr =>
   rw[hB] at hb;obtain⟨T,t1,t2⟩:=hb;exact⟨T,by have:SS.zero.ol=0:=rfl;omega,oD g I t2⟩
  | ok Q =>
   rw[hB] at hb;obtain⟨s1,z1⟩:=Q;obtain⟨_,_,_,g4,g5,g6⟩:=iL _ hB;obtain⟨K,q1,q2⟩:=hb;exact⟨g4,by dsimp only;omega,by dsimp only;omega,K,q1,fun T v U=>oD g I (q2 T v U)⟩
theorem jU (hd:∀i,dat i<256):∀(f a:Nat) (O:Nat->Nat) (g:Nat) (q:PS CE),a<=N->q.saw=false->q.pos=a->¬q.off<q.bl->(a=N->q.one=true)->g<=4194304 ->
  match df dat N f a O g with
  | .op=>True
  | .wr=>∃T,g+T.length<=4194304/\gk dat N q T 2
  | .ok (k,h)=>g<=h/\h<=4194304/\(∀i,i<g->k i=O i)/\gk dat N q (txt k g h) 1:=by
 intro f
 induction f with
 | zero=>intros;trivial
 | succ f W =>
  intro a O g q ha I y F U u;rw[df];by_cases j:a<N
  ·rw[ai j];have hf:=uG (room:=4194304-g) hd j I y F
   cases hF:gy (aX dat a) (N-a) (4194304-g) with
   | op=>trivial
   | wr =>
    rw[hF] at hf;obtain⟨T,V,t⟩:=hf;exact⟨T,aa,t⟩
   | ok R =>
    rw[hF] at hf;obtain⟨r,l,z⟩:=R;obtain⟨g1,g2,g3,Y,p,C⟩:=hf;dsimp only[Ve.bind];have hi:=W (a+z) (fj O g l r) (g+l) Y g3 p.saw p.pos p.off (fun _=>p.one) aa
    have et:txt r 0 l=txt (fj O g l r) g (g+l):=kX aa fun i hi=>by
     rw[dr aa aa,Nat.zero_add]
     congr 1;omega
    cases hS:df dat N f (a+z) (fj O g l r) (g+l) with
    | op=>trivial
    | wr =>
     rw[hS] at hi;obtain⟨T,V,t⟩:=hi;exact⟨_,by rw[List.length_append,de];omega,C T 2 t⟩
    | ok M =>
     rw[hS] at hi;obtain⟨k,h⟩:=M;obtain⟨J,j2,A,K⟩:=hi;refine⟨aa,j2,fun i hi=>by rw[A i aa,co (.inl hi)],?_⟩
     have:=C _ _ K
     rw[et,kX (S':=k) (a':=g) (b':=g+l) rfl fun i hi=>(A _ aa).symm,vW _ aa J] at this
     exact this
  ·rw[ah j];obtain rfl:a=N:=aa;refine⟨aZ _,u,fun _ _=>rfl,?_⟩
   rw[lN];have H:(d9 dat a CE.ini q).2=1:=by
    unfold d9;rw[y,o6,rG];dsimp only;rw[ai ⟨Nat.sub_self _,by rw[U rfl];rfl⟩]
   have B:(bB dat a CE.ini (bG dat a) q).2=1:=by
    have hh:fI dat a CE.ini q=d9 dat a CE.ini q:=by unfold fI;rw[ah (show ¬q.saw=true by rw[I];decide)]
    unfold bB;rw[hh,ah (show ¬(d9 dat a CE.ini q).2=0 by rw[H];decide)]
    exact H
   have:=s_ (ini:=CE.ini) (cmp:=bG dat a) F (by rw[B];decide)
   rwa[B] at this
end Go.Proofs.YtogmacnlpclgkaaGreatDoor
namespace Go.Proofs.YtogmacnlpclgkaaGreatDoor
open Go Go.Eng Go.Pz
set_option maxRecDepth 20000
theorem tf {x:Nat->Nat} {n:Nat} {r:Nat×Nat×Nat} (h:jo x n = .ok r):r.2.2=5+cJ (x 4)/\r.2.2<=n:=by
 unfold jo at h
 have h:=(Ve.ite_wr h).2
 dsimp only at h
 obtain⟨g,h⟩:=Ve.ite_wr h
 have h:=(Ve.ite_wr h).2
 have h:=(Ve.ite_op h).2
 have h:=(Ve.ite_op h).2
 cases h
 exact⟨rfl,by dsimp only;omega⟩
theorem tg {x:Nat->Nat} {n n':Nat} {r:Nat×Nat×Nat} (h:jo x n = .ok r) (j:r.2.2<=n'):jo x n' = .ok r:=by
 obtain⟨i,g⟩:=tf h
 unfold jo at h ⊢
 dsimp only at h ⊢
 obtain⟨c1,h⟩:=Ve.ite_wr h
 rw[ah c1]
 have h:=(Ve.ite_wr h).2
 rw[ah aa]
 exact h
theorem Cg {x:Nat->Nat} {n n':Nat} {r:Nat×Nat×Nat} (h:jo x n = .ok r) (j:n'<r.2.2):jo x n' = .wr:=by
 obtain⟨i,g⟩:=tf h
 unfold jo at h ⊢
 dsimp only at h ⊢
 obtain⟨c1,h⟩:=Ve.ite_wr h
 rw[ah c1,ai aa]
theorem Ch {x:Nat->Nat} {n n':Nat} {i sm:Bool} {size:Nat} {s s1:SS} {at_ e:Nat} (h:oB x n i sm size s at_ = .ok (s1,e)):s1=s/\at_<=e/\(e<=n'->oB x n' i sm size s at_ = .ok (s1,e))/\(at_<=n'->n'<e->oB x n' i sm size s at_ = .wr):=by
 unfold oB at h ⊢
 obtain⟨c1,h⟩:=Ve.ite_wr h
 rw[ah c1]
 by_cases c2:sm=true
 ·rw[ai c2] at h ⊢;obtain⟨c3,h⟩:=Ve.ite_wr h;cases h;refine⟨rfl,aa,fun j=>?_,fun _ j=>?_⟩
  ·rw[ah fun g=>?_]
   rcases g with g|g
   ·omega
   ·exact c3 (.inr g)
  ·rw[ai (.inl j)]
 ·rw[ah c2] at h ⊢;cases h;exact⟨rfl,aZ _,fun _=>rfl,fun l k=>aa⟩
theorem th {x:Nat->Nat} {n n' room room' win most:Nat} {l sm:Bool} {size:Nat}:∀(f:Nat) {at_:Nat} {s s1:SS} {e:Nat},fq x n room win most l sm size f at_ s = .ok (s1,e)->s1.ol<=room' ->
  (e<=n'->∀g,n'<g+at_->fq x n' room' win most l sm size g at_ s = .ok (s1,e))/\(at_<=n'->n'<e->∀g,n'<g+at_->fq x n' room' win most l sm size g at_ s = .wr)
 | 0,_,_,_,_,h,_=>by cases h
 | f+1,at_,s,s1,e,h,hr=>by
  obtain⟨_,_,_,_,K,H⟩:=iL _ h;rw[fq] at h;obtain⟨c1,h⟩:=Ve.ite_wr h;dsimp only at h;obtain⟨k,y⟩:∃k,k=if dB x at_/2%4=1 then 1 else dB x at_/8:=⟨_,rfl⟩
  rw[<- y] at h;obtain⟨c2,h⟩:=Ve.ite_wr h;obtain⟨c3,h⟩:=Ve.ite_op h;obtain⟨t,hs,h⟩:=Ve.bind_some h;obtain⟨c4,h⟩:=Ve.ite_op h;have z:¬dB x at_/2%4=3:=fun h=>c2 (.inl h)
  have u:¬131072<dB x at_/8:=fun h=>c2 (.inr (.inl h))
  have step:∀g,n'<g+at_->at_<=n'->(n'<at_+3+k->fq x n' room' win most l sm size g at_ s = .wr) /\
    (at_+3+k<=n'->t.ol<=room'->fq x n' room' win most l sm size g at_ s=if dB x at_%2=1 then oB x n' l sm size t (at_+3+k) else fq x n' room' win most l sm size (g-1) (at_+3+k) t):=by
   intro g i q;obtain⟨f2,rfl⟩:∃f2,g=f2+1:=⟨g-1,aa⟩
   rw[fq];refine⟨fun j=>?_,fun F C=>?_⟩
   ·by_cases c5:n'<at_+3
    ·rw[ai c5]
    rw[ah c5];dsimp only;rw[<- y,ai (.inr (.inr j))]
   ·rw[ah aa];dsimp only;rw[<- y,ah (fun r=>by rcases r with r|r|r;exact z r;exact u r;omega),ah c3,hs]
    show(if room'<t.ol then Ve.op else _)=_
    rw[ah aa]
    rfl
  by_cases hl:dB x at_%2=1
  ·rw[ai hl] at h;obtain⟨rfl,M,A,B⟩:=Ch (n':=n') h
   refine⟨fun p g i=>?_,fun q p g i=>?_⟩
   ·rw[(step g i aa).2 aa hr,ai hl];exact A p
   ·by_cases j:n'<at_+3+k
    ·exact(step g i q).1 j
    ·rw[(step g i q).2 aa hr,ai hl];exact B aa p
  ·rw[ah hl] at h;obtain⟨J,_,_,_,I,_⟩:=iL _ h;obtain⟨A,B⟩:=th f h hr;refine⟨fun p g i=>?_,fun q p g i=>?_⟩
   ·rw[(step g i aa).2 aa aa,ah hl];exact A p _ aa
   ·by_cases j:n'<at_+3+k
    ·exact(step g i q).1 j
    ·rw[(step g i q).2 aa aa,ah hl];exact B aa p _ aa
theorem ks {x:Nat->Nat} {n n' room room':Nat} {O:Nat->Nat} {l z:Nat} (h:gy x n room = .ok (O,l,z)) (t:l<=room') :
  5<=z/\z<=n/\l<=room/\(z<=n'->gy x n' room' = .ok (O,l,z))/\(n'<z->gy x n' room' = .wr):=by
 unfold gy at h ⊢
 obtain⟨c1,h⟩:=Ve.ite_wr h
 by_cases hs:bw x 0/16*16=407710288
 ·rw[ai hs] at h ⊢;obtain⟨c2,h⟩:=Ve.ite_wr h;obtain⟨c3,h⟩:=Ve.ite_wr h;cases h;refine⟨aa,aa,Nat.zero_le _,fun i=>?_,fun i=>?_⟩
  ·rw[ah aa,ah aa,ah aa]
  ·by_cases k:n'<4
   ·rw[ai k]
   rw[ah k];by_cases p:n'<8
   ·rw[ai p]
   ·rw[ah p,ai i]
 rw[ah hs] at h ⊢
 obtain⟨c2,h⟩:=Ve.ite_wr h
 have j:¬bw x 0≠4247762216:=fun h=>c2 (.inl h)
 obtain⟨r,q,h⟩:=Ve.bind_some h
 obtain⟨⟨s1,e⟩,hb,h⟩:=Ve.bind_some h
 cases h
 obtain⟨F,H⟩:=tf q
 obtain⟨_,_,_,u,I,y⟩:=iL _ hb
 obtain⟨A,C⟩:=th (n':=n') (room':=room') _ hb t
 dsimp only at t ⊢
 refine⟨aa,y,u,fun i=>?_,fun i=>?_⟩
 ·rw[ah aa,ah (fun g=>by rcases g with g|g;exact j g;omega),tg (n':=n') q aa]
  show((fq x n' room' _ _ _ _ _ n' _ _).bind _)=_
  rw[A i n' aa]
  rfl
 ·by_cases k:n'<4
  ·rw[ai k]
  rw[ah k];by_cases p:n'<5
  ·rw[ai (.inr p)]
  rw[ah (fun g=>by rcases g with g|g;exact j g;omega)]
  by_cases B:n'<r.2.2
  ·rw[Cg q B];rfl
  ·rw[tg (n':=n') q aa];show((fq x n' room' _ _ _ _ _ n' _ _).bind _)=_
   rw[C aa i n' aa]
   rfl
def iy (x:Nat->Nat) (N:Nat):Nat->Nat->Nat->List Nat
 | 0,_,_=>[]
 | f+1,at_,ol=>if at_<N then match gy (aX x at_) (N-at_) (4194304-ol) with
   | .ok r=>(at_+r.2.2)::iy x N f (at_+r.2.2) (ol+r.2.1)
   | _=>[]
  else[]
section
variable {x:Nat->Nat} {N:Nat}
theorem oE:∀(f:Nat) {a:Nat} {O A:Nat->Nat} {j q:Nat},df x N f a O j = .ok (A,q)->a<=N->j<=4194304 ->
  j<=q/\q<=4194304/\(∀i,i<j->A i=O i)/\(∀e,e∈iy x N f a j->a<e/\e<=N)/\(a<N->iy x N f a j≠[]) /\
  (∀e,e∈iy x N f a j->∀g,e<=g+a->∃M l2,df x e g a O j = .ok (M,l2)/\l2<=q/\∀i,i<l2->M i=A i) /\
  ∀k,a<k->k<N->¬k∈iy x N f a j->∀g,k<=g+a->df x k g a O j = .wr:=by
 intro f
 induction f with
 | zero=>intro a O A j q h;cases h
 | succ f ih =>
  intro a O A j q h ha H;rw[df] at h;rw[iy];by_cases t:a<N
  ·rw[ai t] at h;rw[ai t];obtain⟨⟨O1,l,z⟩,K,h⟩:=Ve.bind_some h;rw[K];dsimp only at h ⊢;have I:=fun(n' room':Nat) (hr:l<=room')=>ks (n':=n') (room':=room') K hr
   obtain⟨z5,zN,lr,-,-⟩:=I 0 l (aZ _)
   obtain⟨i1,i2,U,V,i5,i6,i7⟩:=ih h aa aa;have p:∀e g,a+z<=e->e<=g+a->∃f2,g=f2+1/\e+1<=f2+(a+z)/\df x e g a O j=df x e f2 (a+z) (fj O j l O1) (j+l):=by
    intro e g h1 h2;obtain⟨f2,rfl⟩:∃f2,g=f2+1:=⟨g-1,aa⟩
    refine⟨f2,rfl,aa,?_⟩
    rw[df,ai aa,(I (e-a) (4194304-j) aa).2.2.2.1 aa]
    rfl
   refine⟨aa,i2,fun i hi=>by rw[U i aa,co (.inl hi)],fun e r=>?_,fun _ h=>List.cons_ne_nil _ _ h,fun e r g u=>?_,fun k F C J g u=>?_⟩
   ·rcases List.mem_cons.1 r with rfl|r
    ·omega
    ·have:=V e r;omega
   ·rcases List.mem_cons.1 r with rfl|r
    ·obtain⟨f2,rfl,B,hs⟩:=p (a+z) g (aZ _) u
     obtain⟨W,rfl⟩:∃W,f2=W+1:=⟨f2-1,aa⟩
     rw[hs,df,ah aa];exact⟨_,_,rfl,i1,fun i hi=>(U i hi).symm⟩
    ·have Y:=V e r
     obtain⟨f2,rfl,B,hs⟩:=p e g aa u;rw[hs];exact i6 e r f2 aa
   ·have y:¬k=a+z/\¬k∈iy x N f (a+z) (j+l):=⟨fun h=>J (by rw[h];exact List.mem_cons_self),fun h=>J (List.mem_cons_of_mem _ h)⟩
    by_cases ab:k<a+z
    ·obtain⟨f2,rfl⟩:∃f2,g=f2+1:=⟨g-1,aa⟩
     rw[df,ai F,(I (k-a) (4194304-j) aa).2.2.2.2 aa]
     rfl
    ·obtain⟨f2,rfl,B,hs⟩:=p k g aa u;rw[hs];exact i7 k (by have:=y.1;omega) C y.2 f2 aa
  ·rw[ah t] at h;rw[ah t];cases h;exact⟨aZ _,H,fun _ _=>rfl,fun e r=>(by cases r),fun h=>absurd h t,fun e r=>(by cases r),fun k h1 h2=>aa⟩
end
theorem uH {dat:Nat->Nat} {M:Nat} (hd:∀i,dat i<256) {a0 N:Nat} (hN:a0+N<=M):∀(f a:Nat) (O k:Nat->Nat) (j g:Nat) (q:PS CE),df (aX dat a0) N f a O j = .ok (k,g)->a<=N->j<=4194304->q.saw=false->q.pos=a0+a->¬q.off<q.bl->(a=N->q.one=true) ->
  ∃u,JS (a0+N) u/\∀T v,gk dat M u T v->gk dat M q (txt k j g++T) v:=by
 intro f
 induction f with
 | zero=>intro a O k j g q h;cases h
 | succ f ih =>
  intro a O k j g q h ha K C B H V;rw[df] at h;by_cases p:a<N
  ·rw[ai p] at h;obtain⟨⟨O1,l,z⟩,F,h⟩:=Ve.bind_some h;dsimp only at h;obtain⟨z5,zN,lr,A,-⟩:=ks (n':=M-(a0+a)) (room':=4194304-j) F (by have:=(ks (n':=0) (room':=l) F (aZ _)).2.2.1;omega)
   have r:=A aa
   rw[kr] at r;have hs:=uG (N:=M) (room:=4194304-j) hd (show a0+a<M from aa) C B H
   rw[r] at hs;obtain⟨g1,g2,g3,u,t,W⟩:=hs;obtain⟨J,j2,U,-⟩:=oE f h aa aa;obtain⟨q2,I,Y⟩:=ih (a+z) _ k (j+l) g u h aa aa t.saw (by rw[t.pos];omega) t.off (fun _=>t.one)
   refine⟨q2,I,fun T v y=>?_⟩
   have:=W _ _ (Y T v y)
   have et:txt O1 0 l=txt k j (j+l):=kX aa fun i hi=>by
    rw[U _ aa,dr aa aa,Nat.zero_add]
    congr 1;omega
   rw[et,<- List.append_assoc,vW _ aa J] at this;exact this
  ·rw[ah p] at h;cases h;obtain rfl:a=N:=aa;refine⟨q,⟨C,B,H,V rfl⟩,fun T v y=>?_⟩
   rw[lN];exact y
end Go.Proofs.YtogmacnlpclgkaaGreatDoor
namespace Go.Proofs.YtogmacnlpclgkaaGreatDoor
open Go Go.Eng Go.Pz
attribute [local irreducible] RO J av aO
set_option maxRecDepth 20000
variable {G:ao} {d:Nat->Nat}
theorem EJ (a:Nat) (h:a<2^63):(BitVec.ofInt 64 (a:Int) &&& ~~~BitVec.ofInt 64 15).toNat=a/16*16:=by
 rw[BitVec.toNat_and]
 have e:(~~~BitVec.ofInt 64 15).toNat=2^64-16:=by decide
 rw[e,BitVec.ofInt_natCast,BitVec.toNat_ofNat,Nat.mod_eq_of_lt aa]
 have l:a/16*16=(a>>>4)<<<4:=by rw[Nat.shiftRight_eq_div_pow,Nat.shiftLeft_eq]
 rw[l]
 refine Nat.eq_of_testBit_eq fun i=>?_
 rw[Nat.testBit_and,Nat.testBit_shiftLeft,Nat.testBit_shiftRight]
 have j:(2^64-16:Nat)=(2^60-1)<<<4:=by decide
 rw[j,Nat.testBit_shiftLeft,Nat.testBit_two_pow_sub_one]
 by_cases g:4<=i
 ·rw[show 4+(i-4)=i from aa];by_cases k:i<64
  ·simp[g];omega
  ·have:a.testBit i=false:=Nat.testBit_lt_two_pow (Nat.lt_of_lt_of_le h (Nat.pow_le_pow_right aa aa))
   simp[this]
 ·simp[g]
theorem xR {P:Program} {qs:List FuncId} {c:World} {n:Nat} {h0:dx} {ops:Array Oper} {Q:Fr->ao->Prop} {rest:List Oper} {f:Fr} {m:ao} {d:Option Tmp} {T T' tt:TypeId} {pos:String} {aft:Array Edge} (a:Nat) {x:Operand} (hx:ev f x = .int .i64 (a:Int)) (g:a<2^62) (hd:aE n d=true)
  (h:RO P G qs c n h0 ops Q rest (aV f d (.int .i64 ((a/16*16:Nat):Int))) m):RO P G qs c n h0 ops Q (⟨d,.binOp .andNot T x (.const (.int .i64 15)) T',tt,pos,aft,none⟩::rest) f m:=by
 refine dq hx rfl rfl hd ?_
 rw[show IntKind.bits .i64=64 from rfl,EJ a aa,fG (show _<2^63 from aa)]
 exact h
theorem qr (x:Nat->Nat) (p:Nat):bT (fun i=>x (p+i)) 4=bw x p:=by rw[IY];rfl
theorem xS {x:Nat->Nat} (hx:∀i,x i<256) (p:Nat):bw x p<4294967296:=lC _ (fun _=>hx _)
theorem Gz (F:Option Addr) (N r:Nat) (hd:∀i,d i<256) (q:aU G F N r d) (hN:N<=2^31) (room:Nat) (j:room<=4194304) :
  av Tryz.prog G 30 #[.slice F N r,ay room] [] (JF (gy d N room)):=by
 refine bE Tryz.func30 fun c0 h0 hex=>?_
 obtain⟨E,g⟩:∃E,E=gy d N room:=⟨_,rfl⟩
 rw[<- g]
 unfold gy at g
 have I:=q.le
 refine go ?_
 refine ac rfl (fun J=>?_) (fun J=>?_)
 ·rw[ai aa] at g;subst g;refine go ?_;exact af (bx [4,5,6] rfl)
 rw[ah aa] at g
 obtain⟨b0,Y,rfl⟩:=q.some aa
 refine go ?_
 have u:=xS hd 0
 have y:=xS hd 4
 have C:bT d 4=bw d 0:=by rw[<- qr d 0];congr 1;exact funext fun i=>by rw[Nat.zero_add]
 have p:=q.cut (h:=4) aa
 refine ae (gj _ 4 r d hd ⟨p.le,p.is⟩ (by rw[C];omega) aa) ?_
 rintro v m ⟨rfl,rfl⟩
 rw[C]
 obtain⟨M0,B⟩:∃M0,M0=bw d 0:=⟨_,rfl⟩
 rw[<- B] at g u ⊢
 refine go ?_
 refine xR M0 rfl aa rfl ?_
 refine go ?_
 refine ac rfl (fun hs=>?_) (fun hs=>?_)
 ·rw[ai aa] at g;refine go ?_;refine ac rfl (fun U=>?_) (fun U=>?_)
  ·rw[ai aa] at g;subst g;refine go ?_;exact af (bx [4,5,6] rfl)
  rw[ah aa] at g;refine go ?_;have k:=q.sub (l:=4) (h:=8) aa aa
  rw[kW,ah aa] at k;refine ae (gj _ 4 (r-4) (fun i=>d (4+i)) (fun _=>hd _) ⟨k.le,k.is⟩ (by rw[qr];omega) aa) ?_
  rintro v m ⟨rfl,rfl⟩;rw[qr];obtain⟨H,t⟩:∃H,H=bw d 4:=⟨_,rfl⟩
  rw[<- t] at g y ⊢;refine go ?_;refine ac rfl (fun M=>?_) (fun M=>?_)
  ·rw[ai aa] at g;subst g;refine go ?_;exact af (bx [4,5,6] rfl)
  rw[ah aa] at g;subst g;refine go ?_;exact af (bx [4,5,6] ⟨none,0,rfl,.inl ⟨rfl,rfl,rfl⟩⟩)
 rw[ah aa] at g
 refine go ?_
 refine aJ 32 rfl (fun hx=>?_) (fun hx=>?_)
 ·rw[ai (.inl aa)] at g;subst g;refine go ?_;exact af (bx [4,5,6] rfl)
 refine go ?_
 refine ac rfl (fun K=>?_) (fun K=>?_)
 ·rw[ai (.inr aa)] at g;subst g;refine go ?_;exact af (bx [4,5,6] rfl)
 rw[ah aa] at g
 replace g:E=te d N room:=g
 rw[g]
 refine go ?_
 refine ae (IL (some ⟨b0,Y,none⟩) N r hd q aa hN room j) ?_
 rintro v m hR
 revert hR
 cases te d N room with
 | op =>
  rintro rfl;refine go ?_;exact af (bx [4,5,6] rfl)
 | wr =>
  rintro rfl;refine go ?_;exact af (bx [4,5,6] rfl)
 | ok R =>
  obtain⟨O,l,z⟩:=R;rintro⟨W,V,rfl,hs⟩;refine go ?_;exact af (ii [4,5,6] (m) ⟨W,V,rfl,hs⟩)
def cK (j:Option Addr) (l i k:Nat) (h:Option Addr) (n g:Nat):bk:=aj [.slice j l i,ay k,.slice h n g] 29
def tH (j:Option Addr) (l i k:Nat) (h:Option Addr) (n g:Nat):Value:=.agg #[.slice j l i,ay k,.slice h n g]
def yZ (l:List Nat):Nat->Int:=fun i=>((l.getD i 0:Nat):Int)
def IM (r:Ve ((Nat->Nat)×Nat)) (es:List Nat) (v:Value) (m:ao):Prop:=match r with
 | .op=>v=tH none 0 0 0 none 0 0/\m=[]
 | .wr=>v=tH none 0 0 2 none 0 0/\m=[]
 | .ok (O,ol)=>∃g k j i h em,v=tH g ol k 1 j es.length i/\m=h++em/\dH 1 (.slice g ol k) ol (dw O) h/\dH 1 (.slice j es.length i) es.length (je (yZ es)) em
def cP (d:Nat->Nat) (N:Nat):Ve ((Nat->Nat)×Nat):=df d N N 0 (fun _=>0) 0
theorem GA (a b:Nat×bk) (x y j:ao):(a::b::(x++(y++j))).Perm ((x++y)++(a::b::j)):=an
structure KJ where
 at_:Nat
 O:Nat->Nat
 ol:Nat
 es:List Nat
 ne:Nat
 oa:Option Addr
 cp:Nat
 om:ao
 ea:Option Addr
 ec:Nat
 em:ao
 j:ao
set_option maxHeartbeats 1000000 in
theorem fi (da:Option Addr) (N cp:Nat) (hd:∀i,d i<256) (u:aU G da N cp d) (hN:N<=2^31) :
  av Tryz.prog G 17 #[.slice da N cp] [] (IM (cP d N) (iy d N N 0 0)):=by
 refine bE Tryz.func17 fun c0 h0 hex=>?_
 have a3:=u.le
 have U:∀(x y:Value) (k:Nat),∀v∈[x,Value.int .i64 (k:Nat),y],dJ x=true->dJ y=true->dJ v=true:=fun x y k v u hx hy=>by
  simp only[List.mem_cons,List.not_mem_nil,or_false] at u;rcases u with rfl|rfl|rfl<;>first|assumption|rfl
 refine go ?_
 refine aC z29 rfl hex fun H bc=>?_
 refine go ?_
 refine aC z29 rfl hex fun rb bs=>?_
 refine go ?_
 refine ac rfl (fun hz=>?_) (fun hz=>?_)
 ·obtain rfl:N=0:=aa;refine go ?_;refine cz (s:=2) rfl rfl rfl .here (aZ 3) rfl ?_
  refine go ?_;refine ak (s:=2) (vs:=[.slice none 0 0,.int .i64 ((0:Nat):Int),.slice none 0 0]) rfl rfl rfl rfl (fun v u=>U _ _ _ v u rfl rfl) (.there .here) (aZ 3) rfl hex ?_
  refine go ?_;refine af ?_;exact cH [.cell 2 29] [tH none 0 0 0 none 0 0] (post:=[]) (junk:=_) ⟨⟨H,0,2,_,rfl,rfl,rfl,List.mem_cons_of_mem _ List.mem_cons_self,aZ 3,rfl⟩,trivial⟩ ⟨rfl,rfl⟩ rfl (.refl _)
 refine go ?_
 refine aH (σ:=KJ) [] (fun t=>[(0,.slice da N cp),(2,bf H),(3,bf rb),(4,ay t.at_)]) (fun t=>(rb,cK t.oa t.ol t.cp 0 t.ea t.ne t.ec)::(H,cK none 0 0 0 none 0 0)::(t.om++(t.em++t.j)))
  (fun t=>t.at_<=N/\t.ol<=4194304/\dH 1 (.slice t.oa t.ol t.cp) t.ol (dw t.O) t.om/\dH 1 (.slice t.ea t.ne t.ec) t.ne (je (yZ t.es)) t.em/\t.ne<=t.at_/\t.es.length=t.ne /\
   ∃f,N<=f+t.at_/\(t.at_<N\/1<=f)/\cP d N=df d N f t.at_ t.O t.ol/\iy d N N 0 0=t.es++iy d N f t.at_ t.ol) (fun t=>N-t.at_)
  ⟨0,fun _=>0,0,[],0,none,0,[],none,0,[],[]⟩ (.refl _) ⟨Nat.zero_le _,Nat.zero_le _,.inl ⟨rfl,rfl,rfl⟩,.inl ⟨rfl,rfl,rfl⟩,Nat.zero_le _,rfl,N,aZ _,.inl (by dsimp only;omega),rfl,rfl⟩ ?_
 rintro⟨a,O,p,es,ne,oa,cq,om,W,Y,em,j⟩ f ⟨ha,a8,aw,am,a5,J,ff,ba,a9,F,r⟩
 dsimp only at ha a8 aw am a5 J ba a9 F r ⊢
 refine go ?_
 refine ac rfl (fun bm=>?_) (fun be=>?_)
 ·have ab:a<N:=aa
  obtain⟨f2,rfl⟩:∃f2,ff=f2+1:=⟨ff-1,aa⟩
  rw[df,ai ab] at F;rw[iy,ai ab] at r;refine go ?_;refine cT a N u rfl rfl rfl rfl rfl rfl rfl aa a3 rfl ?_
  refine go ?_;have a7:aU G (ek da a cp) (N-a) (cp-a) (aX d a):=u.sub aa (aZ _)
  refine ar (Gz (d:=aX d a) (ek da a cp) (N-a) (cp-a) (fun i=>hd _) a7 aa (4194304-p) aa) ?_ (fm:=(rb,cK oa p cq 0 W ne Y)::(H,cK none 0 0 0 none 0 0)::(om++(em++j))) (hs:=.of_perm an)
  cases hF:gy (aX d a) (N-a) (4194304-p) with
  | op =>
   rw[hF] at F;rintro v m rfl;refine go ?_;refine ac rfl (fun _=>?_) (fun h=>absurd h (by decide))
   refine go ?_;refine bU (vs:=[.slice none 0 0,.int .i64 ((0:Nat):Int),.slice none 0 0]) rfl rfl z29 rfl rfl rfl rfl ?_
   refine go ?_;refine ak (s:=2) (vs:=[.slice none 0 0,.int .i64 ((0:Nat):Int),.slice none 0 0]) rfl rfl rfl rfl (fun v u=>U _ _ _ v u rfl rfl) (.there .here) (aZ 3) rfl hex ?_
   refine go ?_;refine af ?_;rw[F];exact cH [.cell 2 29] [tH none 0 0 0 none 0 0] (post:=[]) (junk:=_) ⟨⟨H,0,2,_,rfl,rfl,rfl,List.mem_cons_of_mem _ List.mem_cons_self,aZ 3,rfl⟩,trivial⟩ ⟨rfl,rfl⟩ rfl (.refl _)
  | wr =>
   rw[hF] at F;rintro v m rfl;refine go ?_;refine ac rfl (fun _=>?_) (fun h=>absurd h (by decide))
   refine go ?_;refine bU (vs:=[.slice none 0 0,.int .i64 ((2:Nat):Int),.slice none 0 0]) rfl rfl z29 rfl rfl rfl rfl ?_
   refine go ?_;refine ak (s:=2) (vs:=[.slice none 0 0,.int .i64 ((2:Nat):Int),.slice none 0 0]) rfl rfl rfl rfl (fun v u=>U _ _ _ v u rfl rfl) (.there .here) (aZ 3) rfl hex ?_
   refine go ?_;refine af ?_;rw[F];exact cH [.cell 2 29] [tH none 0 0 2 none 0 0] (post:=[]) (junk:=_) ⟨⟨H,0,2,_,rfl,rfl,rfl,List.mem_cons_of_mem _ List.mem_cons_self,aZ 3,rfl⟩,trivial⟩ ⟨rfl,rfl⟩ rfl (.refl _)
  | ok R =>
   obtain⟨O1,l,z⟩:=R;rw[hF] at F r;dsimp only[Ve.bind] at F r;obtain⟨bq,bd,lr,-,-⟩:=ks (n':=0) (room':=l) hF (aZ _)
   rintro v m ⟨br,bo,rfl,a6⟩;refine go ?_;refine ac rfl (fun h=>absurd rfl h) (fun _=>?_)
   refine go ?_;obtain⟨src,a2,a1⟩:=yI (M:=((rb,cK oa p cq 0 W ne Y)::(H,cK none 0 0 0 none 0 0)::(om++(em++j)))++m++G) a6 (fun q hq=>by simp[hq])
   refine bg (s:=0) (src:=src) (k:=l) (len:=p) (v:=.slice oa p cq) (cl:=dw O) (sm:=om) (fm:=(rb,cK oa p cq 0 W ne Y)::(H,cK none 0 0 0 none 0 0)::(m++(em++j))) rfl rfl rfl rfl z5 (by decide) rfl rfl aw
    an a2 (fun x hx=>by rw[a1 x aa];rfl) aa hex rfl ?_
   intro w om2 a0 C;clear C;obtain⟨I,K,rfl⟩:=bV a0;have a4:dH 1 (.slice I (p+l) K) (p+l) (dw (fj O p l O1)) om2:=bR a0 fun x hx=>by
    have hx:x<(p+l)*(0+1):=hx
    unfold dw;by_cases h2:x<p
    ·rw[ai aa,co aa]
    ·rw[ah aa,a1 _ aa,dr aa aa,show x-p*(0+1)=x-p from aa];rfl
   refine go ?_;refine au (z:=.int .i64 0) (vs:=[.int .i64 ((a+z:Nat):Int)]) rfl rfl z3 rfl rfl rfl rfl hex fun yb bb=>?_
   refine go ?_;refine bg (s:=0) (src:=fun k=>(aj [.int .i64 ((a+z:Nat):Int)] 3).g (0+k)) (k:=1) (len:=ne) (v:=.slice W ne Y) (cl:=je (yZ es)) (sm:=em) (fm:=(yb,aj [.int .i64 ((a+z:Nat):Int)] 3)::(rb,(cK oa p cq 0 W ne Y).st (0+0) (.slice I (p+l) K))::(H,cK none 0 0 0 none 0 0)::(m++(om2++j))) rfl rfl rfl rfl z3 (by decide) rfl rfl am
    an (k_.of (B:=aj [.int .i64 ((a+z:Nat):Int)] 3) (by simp) (by show 0+1*(0+1)<=1;decide)) (fun k hk=>by rw[show k=0 from by have h:k<1:=hk;omega];rfl) aa hex rfl ?_ (hQ:=fun _ _ _ e h=>by obtain⟨s,h1,hi,hs,hm⟩:=h;exact⟨s,h1,hi,hs,e.trans hm⟩)
   intro w em2 V C;clear C;obtain⟨al,ad,rfl⟩:=bV V;have ax:dH 1 (.slice al (ne+1) ad) (ne+1) (je (yZ (es++[a+z]))) em2:=bR V fun x hx=>by
    have hx:x<(ne+1)*(0+1):=hx
    unfold je yZ;by_cases h2:x<ne
    ·rw[ai aa,List.getD_eq_getElem?_getD,List.getD_eq_getElem?_getD,List.getElem?_append_left aa]
    ·rw[ah aa,show x-ne*(0+1)=0 from aa,show x=es.length from aa,List.getD_eq_getElem?_getD,List.getElem?_append_right (aZ _),Nat.sub_self];rfl
   refine go ?_;exact⟨⟨a+z,fj O p l O1,p+l,es++[a+z],ne+1,I,K,om2,al,ad,em2,(yb,aj [.int .i64 ((a+z:Nat):Int)] 3)::(m++j)⟩,by dsimp only;omega,⟨by dsimp only;omega,by dsimp only;omega,a4,ax,by dsimp only;omega,by dsimp only;rw[List.length_append,J];rfl,f2,by dsimp only;omega,by dsimp only;omega,F,by dsimp only;rw[r,List.append_assoc];rfl⟩,cF,.trans (.skip (.cons (B':=cK I (p+l) K 0 al (ne+1) ad) dT (.refl _))) (.of_perm an)⟩
 ·obtain rfl:a=N:=aa;obtain⟨f2,rfl⟩:∃f2,ff=f2+1:=⟨ff-1,aa⟩
  rw[df,ah (Nat.lt_irrefl _)] at F;rw[iy,ah (Nat.lt_irrefl _),List.append_nil] at r;refine go ?_;refine cz (s:=2) rfl rfl rfl .here (aZ 3) rfl ?_
  refine go ?_;refine ak (s:=2) (vs:=[.slice oa p cq,.int .i64 ((1:Nat):Int),.slice W ne Y]) rfl rfl rfl rfl (fun v u=>U _ _ _ v u rfl rfl) (.there .here) (aZ 3) rfl hex ?_
  refine go ?_;refine af ?_;rw[F,r];refine cH [.cell 2 29] [tH oa p cq 1 W ne Y] (post:=om++em) (junk:=_) ⟨⟨H,0,2,_,rfl,rfl,rfl,List.mem_cons_of_mem _ List.mem_cons_self,aZ 3,rfl⟩,trivial⟩ ⟨oa,cq,W,Y,om,em,by rw[J];rfl,rfl,aw,by rw[J];exact am⟩ rfl (.of_perm (GA _ _ om em j))
end Go.Proofs.YtogmacnlpclgkaaGreatDoor
namespace Go.Proofs.YtogmacnlpclgkaaGreatDoor
open Go Go.Eng Go.Pz
attribute [local irreducible] RO J av aO
set_option maxRecDepth 20000
variable {G:ao} {dat:Nat->Nat} {N:Nat}
theorem ij.add {G:ao} {g:Nat} {l:List (Nat×Nat)} (h:ij G g l) (m:ao):ij (m++G) g l:=by
 obtain⟨j,b,o,cap,B,r,i,k,q,t,p⟩:=h
 exact⟨j,b,o,cap,B,List.mem_append.2 (.inr r),i,k,List.mem_append.2 (.inr q),t,p⟩
theorem jW.add {G:ao} (V:jW G) (m:ao):jW (m++G):=by
 obtain⟨i,g,j,h⟩:=V.fz
 exact⟨V.b0.add m,V.b2.add m,i,List.mem_append.2 (.inr g),j,h⟩
theorem kY (S:bN G) (V:jW G) (hd:∀i,dat i<256) (j:Option Addr) (k:Nat) (l:aU G j N k dat) (r:N<2^60) {T:List Nat} {v:Nat} (C:gk dat N (PS.init CE.zero) T v) (hl:T.length<=2^39) :
  av Tryz.prog G 19 #[.slice j N k] [] (fun w q=>∃g h O,w = .tuple #[.slice g T.length h,.bool (decide (v=1))]/\dH 1 (.slice g T.length h) T.length (dw O) q/\∀i,i<T.length->T[i]? = some (O i)):=by
 obtain⟨B,F,t,z⟩:=V.fz
 obtain⟨p,hA,_,u⟩:=vX (fh dat N) 4096 (by decide) T.length (aZ _) C (fun _=>0) 0
 rw[Nat.zero_add] at hA
 refine(ss S hd j k l r jd (bG dat N) _ (fun y=>xu (fH S dat j N k y l r) hd V.b0 V.b2 aa) (fh dat N) CE.ini mJ B F t z oF (pq hd) CE.zero ns mK (p,T.length,decide (v=1)) (fun _=>0) hA hl).mono ?_
 rintro w q ⟨out,rfl,hs⟩
 obtain⟨g,h,rfl⟩:=bV hs
 exact⟨g,h,p,rfl,hs,fun i hi=>by rw[u i hi,Nat.zero_add]⟩
theorem nz {r:(Nat->Nat)×Nat} (h:cP dat N = .ok r):0<N:=by
 cases N with
 | zero=>cases h
 | succ n=>exact Nat.succ_pos n
theorem jz (hd:∀i,dat i<256) {O:Nat->Nat} {l:Nat} (h:cP dat N = .ok (O,l)):gk dat N (PS.init CE.zero) (txt O 0 l) 1/\l<=4194304:=by
 have h0:=nz h
 have:=jU (N:=N) hd N 0 (fun _=>0) 0 (PS.init CE.zero) (Nat.zero_le _) rfl rfl (by show ¬(0:Nat)<0;omega) (fun e=>aa) (Nat.zero_le _)
 unfold cP at h
 rw[h] at this
 exact⟨this.2.2.2,this.2.1⟩
theorem qt (hd:∀i,dat i<256) (h:cP dat N = .wr):∃T,T.length<=4194304/\gk dat N (PS.init CE.zero) T 2:=by
 have h0:0<N:=by
  cases N with
  | zero=>cases h
  | succ n=>exact Nat.succ_pos n
 have:=jU (N:=N) hd N 0 (fun _=>0) 0 (PS.init CE.zero) (Nat.zero_le _) rfl rfl (by show ¬(0:Nat)<0;omega) (fun e=>aa) (Nat.zero_le _)
 unfold cP at h
 rw[h] at this
 obtain⟨T,j,g⟩:=this
 exact⟨T,aa,g⟩
def JG (r:Ve ((Nat->Nat)×Nat)) (w:Value) (k:ao):Prop:=match r with
 | .op=>True
 | .wr=>∃g l h,w = .tuple #[.slice g l h,.bool false]
 | .ok (O,l)=>∃g h j,w = .tuple #[.slice g l h,.bool true]/\dH 1 (.slice g l h) l (dw j) k/\∀i,i<l->j i=O i
theorem lO (S:bN G) (V:jW G) (hd:∀i,dat i<256) (k:Option Addr) (p:Nat) (r:aU G k N p dat) (u:N<2^60) (y:cP dat N ≠ .op) :
  av Tryz.prog G 19 #[.slice k N p] [] (JG (cP dat N)):=by
 cases h:cP dat N with
 | op=>exact absurd h y
 | wr =>
  obtain⟨T,t,q⟩:=qt hd h;refine(kY S V hd k p r u q aa).mono ?_
  rintro w C ⟨g,j,O,rfl,_,_⟩;exact⟨_,_,_,rfl⟩
 | ok R =>
  obtain⟨O,l⟩:=R;obtain⟨t,q⟩:=jz hd h;have hl:(txt O 0 l).length=l:=by rw[de];omega
  refine(kY S V hd k p r u t aa).mono ?_
  rw[hl];rintro w C ⟨g,j,B,rfl,hs,z⟩;refine⟨g,j,B,rfl,hs,fun i hi=>?_⟩
  have:=z i hi
  rw[fD aa,Nat.zero_add] at this;exact(Option.some.inj this).symm
set_option maxHeartbeats 1000000 in
theorem xT (S:bN G) (V:jW G) (hd:∀i,dat i<256) (B:Option Addr) (F:Nat) (hv:aU G B N F dat) :
  av Tryz.prog G 8 #[.slice B N F] [] (fun v _=>v = .bool true):=by
 obtain⟨fb,k,t,q⟩:=V.fz
 refine bE Tryz.func8 fun c h0 hex=>?_
 refine go ?_
 refine ac rfl (fun h1=>?_) (fun h1=>?_)
 ·refine go ?_;exact af (ag [2] rfl)
 have hN:N<=2147483647:=aa
 refine go ?_
 refine ae (fi B N F hd hv aa) ?_
 cases hr:cP dat N with
 | op =>
  rintro v m ⟨rfl,rfl⟩;refine go ?_;refine aC z29 rfl hex fun r y=>?_
  refine go ?_;refine ak (s:=2) (vs:=[.slice none 0 0,.int .i64 ((0:Nat):Int),.slice none 0 0]) rfl rfl rfl rfl (cC rfl) .here (aZ 3) rfl hex ?_
  refine go ?_;refine ae (cf S fb k t q) ?_ (fm:=_) (hs:=.refl _)
  rintro v m rfl;refine go ?_;exact af (bx [2] rfl)
 | wr =>
  rintro v m ⟨rfl,rfl⟩;refine go ?_;refine aC z29 rfl hex fun r y=>?_
  refine go ?_;refine ak (s:=2) (vs:=[.slice none 0 0,.int .i64 ((2:Nat):Int),.slice none 0 0]) rfl rfl rfl rfl (cC rfl) .here (aZ 3) rfl hex ?_
  refine bj (m':=[(r,cK none 0 0 2 none 0 0)]) ci ?_
  refine go ?_;refine ar (lO S V hd B F hv aa (by rw[hr];exact fun h=>by cases h)) ?_ (fm:=[(r,cK none 0 0 2 none 0 0)]) (hs:=.refl _)
  rw[hr];rintro v I ⟨C,l2,u,rfl⟩;refine go ?_;refine ae (cf S fb k t q) ?_ (fm:=_) (hs:=.refl _)
  rintro v m rfl;refine go ?_;exact af (bx [2] rfl)
 | ok R =>
  obtain⟨O,l⟩:=R;rintro v m ⟨j,g,J,H,I,em,rfl,rfl,ab,M⟩;generalize (iy dat N N 0 0).length=ne at M ⊢;refine go ?_;refine aC z29 rfl hex fun r y=>?_
  refine go ?_;refine ak (s:=2) (vs:=[.slice j l g,.int .i64 ((1:Nat):Int),.slice J ne H]) rfl rfl rfl rfl (cC rfl) .here (aZ 3) rfl hex ?_
  refine bj (m':=(r,cK j l g 1 J ne H)::(I++em++[])) ci ?_
  refine go ?_;refine ar (lO S V hd B F hv aa (by rw[hr];exact fun h=>by cases h)) ?_ (fm:=(r,cK j l g 1 J ne H)::(I++em)) (hs:=.of_perm an)
  rw[hr];rintro v W ⟨C,u,O2,rfl,ad,hO⟩;refine go ?_;have K:=b_ ab
  have U:=b_ ad
  refine ar (av.freeze (fm:=I++W) (jQ C j l l u g O2 O (U.mono fun p Y=>by simp[Y]) (K.mono fun p Y=>by simp[Y]) rfl hO)) ?_ (fm:=(r,cK j l g 1 J ne H)::em) (hs:=.of_perm an)
  rintro v m ⟨m0,⟨rfl,rfl⟩,rfl⟩;refine go ?_;refine ae (cf S fb k t q) ?_ (fm:=_) (hs:=.refl _)
  rintro v m rfl;refine go ?_;exact af (bx [2] rfl)
def jn (N:Nat) (x y:Nat->Nat):Nat->Nat:=fun i=>if i<N then x i else y (i-N)
structure KL where
 i:Nat
 oa:Option Addr
 cp:Nat
 om:ao
def jl (N M i:Nat):Nat:=if i=0 then 0 else if i=1 then N else N+M
set_option maxHeartbeats 1000000 in
theorem pF (oa U:Option Addr) (N M cp V:Nat) (x y:Nat->Nat) (hx:aU G oa N cp x) (hy:aU G U M V y) (hN:N+M<=2^40) (Y:Nat) (B:bk) (am:2<=B.n) (W:B.g 0 = .slice oa N cp) (O:B.g 1 = .slice U M V) (hB:(Y,B)∈G) :
  av Tryz.prog G 21 #[.slice (bi Y) 2 2] [] (fun v F=>∃J K,v = .slice J (N+M) K/\dH 1 v (N+M) (dw (jn N x y)) F):=by
 refine bE Tryz.func21 fun c h0 hex=>?_
 refine go ?_
 refine aH (σ:=KL) [] (fun t=>[(3,.slice t.oa (jl N M t.i) t.cp),(6,.slice (bi Y) 2 2),(7,ay 2),(8,ay t.i)]) (fun t=>t.om)
  (fun t=>t.i<=2/\dH 1 (.slice t.oa (jl N M t.i) t.cp) (jl N M t.i) (dw (jn N x y)) t.om) (fun t=>2-t.i) ⟨0,none,0,[]⟩ (.refl _) ⟨by decide,.inl ⟨rfl,rfl,rfl⟩⟩ ?_
 rintro⟨i,J,K,F⟩ f ⟨hi,hs⟩
 dsimp only at hi hs ⊢
 refine go ?_
 refine ac rfl (fun al=>?_) (fun ad=>?_)
 ·have ab:i<2:=aa
  refine go ?_;obtain rfl|rfl:i=0\/i=1:=aa
  ·refine aK (v:=.slice oa N cp) rfl rfl (List.mem_append.2 (.inr hB)) aa W rfl ?_
   obtain⟨src,q,p⟩:=(hx.add (m:=F)).src
   refine go ?_;refine bg (s:=0) (src:=src) (k:=N) (len:=0) (v:=.slice J 0 K) (cl:=dw (jn N x y)) (sm:=F) (fm:=[]) rfl rfl rfl rfl z5 (by decide) rfl rfl hs an q (fun j I=>by rw[p j aa];rfl) aa hex rfl ?_
   intro w u l H;obtain⟨r,C,rfl⟩:=bV l;refine go ?_;refine⟨⟨1,r,C,u⟩,(by show 2-1<2-0;decide),⟨(by show 1<=2;decide),?_⟩,⟨?_,rfl,rfl,rfl,trivial⟩,.refl _⟩
   ·rw[show jl N M 1=0+N from(Nat.zero_add N).symm];refine bR l fun j I=>?_
    show src (j-0)=_
    rw[p _ aa];unfold dw jn;rw[ai aa];rfl
   ·show Value.slice _ _ _=Value.slice _ _ _
    rw[Nat.zero_add];rfl
  ·refine aK (v:=.slice U M V) rfl rfl (List.mem_append.2 (.inr hB)) aa O rfl ?_
   obtain⟨src,q,p⟩:=(hy.add (m:=F)).src
   refine go ?_;refine bg (s:=0) (src:=src) (k:=M) (len:=N) (v:=.slice J N K) (cl:=dw (jn N x y)) (sm:=F) (fm:=[]) rfl rfl rfl rfl z5 (by decide) rfl rfl hs an q (fun j I=>by rw[p j aa];rfl) aa hex rfl ?_
   intro w u l H;obtain⟨r,C,rfl⟩:=bV l;refine go ?_;refine⟨⟨2,r,C,u⟩,(by show 2-2<2-1;decide),⟨(by show 2<=2;decide),?_⟩,cF,.refl _⟩
   refine bR l fun j I=>?_
   have I:j<(N+M)*(0+1):=I
   unfold dw jn;by_cases h:j<N
   ·rw[ai aa]
   ·rw[ah aa,ah h,p _ aa]
    congr 3;omega
 ·obtain rfl:i=2:=aa;refine go ?_;exact af (cE [2] (F) (junk:=[]) ⟨_,_,rfl,hs⟩ (by rw[List.append_nil];exact .refl _))
theorem IM.form {r:Ve ((Nat->Nat)×Nat)} {es:List Nat} {v:Value} {m:ao} (h:IM r es v m):∃q l u i t n p,v=tH q l u i t n p/\((i=1/\∃O k em,r = .ok (O,l)/\n=es.length/\m=k++em/\dH 1 (.slice q l u) l (dw O) k/\dH 1 (.slice t es.length p) es.length (je (yZ es)) em)\/(i≠1/\m=[]/\((i=2/\r = .wr)\/(i=0/\r = .op)))):=by
 match r,h with
 | .op,⟨j,g⟩=>exact⟨_,_,_,_,_,_,_,j,.inr ⟨by decide,g,.inr ⟨rfl,rfl⟩⟩⟩
 | .wr,⟨j,g⟩=>exact⟨_,_,_,_,_,_,_,j,.inr ⟨by decide,g,.inl ⟨rfl,rfl⟩⟩⟩
 | .ok (O,l),h =>
  obtain⟨q,u,t,p,k,em,j,g,y,z⟩:=h;exact⟨_,_,_,_,_,_,_,j,.inl ⟨rfl,O,k,em,rfl,rfl,g,y,z⟩⟩
theorem y7 {D y:Nat->Nat} {N M k l2:Nat} {t l:Nat->Nat} (h:∀i,D i<256) (u:cP D N = .ok (t,k)) (p:cP y M = .ok (l,l2)) (A:aX D N=y):gk D (N+M) (PS.init CE.zero) (txt t 0 k++(txt l 0 l2++[])) 1/\k<=4194304/\l2<=4194304:=by
 have p1:=nz u
 have p2:=nz p
 have z:=(jz h u).2
 have r:=(jz (fun i=>by rw[<- A];exact h _) p).2
 obtain⟨q,j,F⟩:=uH (dat:=D) (M:=N+M) h (a0:=0) (N:=N) aa N 0 _ t 0 k (PS.init CE.zero) (by rw[show aX D 0=D from funext fun i=>by unfold aX;rw[Nat.zero_add]];exact u) (Nat.zero_le _) (Nat.zero_le _) rfl rfl (by show ¬(0:Nat)<0;omega) (fun e=>aa)
 obtain⟨I,g,H⟩:=uH (dat:=D) (M:=N+M) h (a0:=N) (N:=M) (aZ _) M 0 _ l 0 l2 q (by rw[A];exact p) (Nat.zero_le _) (Nat.zero_le _) j.saw (by rw[j.pos];omega) j.off (fun _=>j.one)
 have B:=jU (dat:=D) (N:=N+M) h 1 (N+M) (fun _=>0) 0 I (aZ _) g.saw g.pos g.off (fun _=>g.one) (Nat.zero_le _)
 rw[df,ah (Nat.lt_irrefl _)] at B
 have C:=B.2.2.2
 rw[lN] at C
 exact⟨F _ _ (H _ _ C),z,r⟩
end Go.Proofs.YtogmacnlpclgkaaGreatDoor
