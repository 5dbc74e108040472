/- Texts 28. -/
import Derived.Test.YtogmacnlpclgkaaGreatDoorX27
set_option linter.all false
namespace Go.Eng
open Go
section
variable {P:Program} {G:ao} {qs:List FuncId} {c:World} {n:Nat} {h0:dx}
theorem RO.step1 {ops:Array Oper} {K:Fr->ao->Prop} {W:Act->bJ->Prop} {i:Nat} {o:Oper} {A:List Oper} {f:Fr} {m:ao} {a:Act} {h:bJ} (hi:ops[i]? = some o) (r:nL n a f) (own:ed h0 G m h) (k:RO P G qs c n h0 ops K (o::A) f m)
  (j:∀y m' a' l,nL n a' y->ed h0 G m' l->RO P G qs c n h0 ops K A y m'->W a' l) :
  if gE qs o.op<=1 then GQ P ops c h i (fun a'=>W a' h) a
  else ∀w,At c h w->wpOp P ops jf i (fun a' w'=>∃l m',At c l w'/\ed h0 G m' l/\W a' l) a w:=by
 obtain⟨hd,k⟩:=k
 have g:Region.wanted o (yielded ops a.tmps)=gF ops f o:=by rw[r.yielded];rfl
 rcases k with⟨p,k⟩|⟨p,k⟩
 ·by_cases c0:gE qs o.op=0
  ·rw[ai c0] at k;obtain⟨v,z,t⟩:=k;rw[ai aa];exact⟨o,hi,v,.of_yields (.inl ⟨g.trans p,by rw[r.eval];exact z⟩),j _ _ _ _ (r.put hd v) own t⟩
  rw[ah c0] at k;by_cases c1:gE qs o.op=1
  ·rw[ai c1] at k;obtain⟨v,z,t⟩:=k;rw[ai aa];exact⟨o,hi,v,.inl ⟨g.trans p,fun w u=>by rw[r.eval];exact z h w own u⟩,j _ _ _ _ (r.put hd v) own t⟩
  rw[ah c1] at k;rw[ah aa];intro w u;unfold wpOp;simp only[hi,g,p,if_true]
  exact .inl (Oper.wp_mono (fun a' w' ⟨y,m',l,r',hc',o',_,t⟩=>⟨l,m',hc',o',j _ _ _ _ r' o' t⟩) (k h w own u a r))
 ·have q:Region.wanted o (yielded ops a.tmps)=false:=g.trans p
  by_cases c1:gE qs o.op<=1
  ·rw[ai c1];exact⟨o,hi,undef,.inr ⟨q,rfl⟩,j _ _ _ _ (r.put hd undef) own k⟩
  ·rw[ah c1];intro w u;unfold wpOp;simp only[hi,q,Bool.false_eq_true,if_false]
   exact⟨h,m,u,own,j _ _ _ _ (r.put hd undef) own k⟩
def Jy (P:Program) (G g:ao) (qs:List FuncId) (c:World) (n:Nat) (h0:dx) (l:List Oper) (i:Fr->ao->Prop):OT->Fr->ao->Prop
 | .fin A B,f,m=>∃h j,kf l A=some h/\kf l B=some j/\RO P (g++G) qs c n h0 l.toArray (fun f m=>RO P G qs c n h0 l.toArray i j f (m++g)) h f m
 | .fk A _ _ t u,f,m=>∃h,kf l A=some h/\RO P (g++G) qs c n h0 l.toArray (fun f m=>Jy P G g qs c n h0 l i t f m/\Jy P G g qs c n h0 l i u f m) h f m
theorem ed.none {m:ao} {h:bJ} (o:ed h0 G m h):ed h0 G [] h:=by
 have:=ed.drop (post:=[]) (junk:=m) o
 exact this
theorem ed.toG {m g:ao} {h:bJ} (o:ed h0 G (m++g) h):ed h0 (g++G) m h where
 size:=o.size
 has:=fun q i=>o.has q (by rw[List.append_assoc];exact i)
 nodup:=by have:=o.nodup;rwa[List.append_assoc] at this
 known:=fun p j=>o.known p (List.mem_append.2 (.inl j))
 old:=o.old
 ex:=o.ex
theorem ed.ofG {m i:ao} {h:bJ} (k:∀p∈i,p.1∈h0.K\/h0.h.size<=p.1) (o:ed h0 (i++G) m h):ed h0 G (m++i) h where
 size:=o.size
 has:=fun q j=>o.has q (by rw[List.append_assoc] at j;exact j)
 nodup:=by rw[List.append_assoc];exact o.nodup
 known:=fun p g=>by
  rcases List.mem_append.1 g with g|g
  ·exact o.known p g
  ·exact k p g
 old:=o.old
 ex:=o.ex
theorem kU {G1:ao} {X:bJ->bJ->Prop} {l:List Oper} {pr:Nat} {QN:Act->bJ->Prop} (q:Region.noSelect l.toArray=true) (z:fV 0 (l.map (dI l.toArray qs))=true)
  {K:Fr->ao->Prop} {fuel:Nat}:∀(g:List Nat) (I:List Oper),kf l g=some I->∀(p:Nat) (listed:Array Bool) (f:Fr) (m:ao) (a:Act) (h:bJ),nD l.length p listed->lM (l.map (dI l.toArray qs)) 0 pr g p=true ->
  nL n a f->ed h0 G1 m h->RO P G1 qs c n h0 l.toArray K I f m->(∀i∈g,∀m' h h',pr.testBit i=true->ed h0 G1 m' h'->X h h') ->
  (∀H m' a' h' j,nL n a' H->ed h0 G1 m' h'->K H m'->nD l.length (kT g p) j->qh P l.toArray c qs X (fun k=>pr.testBit k) QN fuel j a' h') ->
  qh P l.toArray c qs X (fun k=>pr.testBit k) QN (g.length+fuel) listed a h
 | [],I,hl,p,listed,f,m,a,h,hs,_,r,own,y,_,cont=>by
  cases hl;rw[List.length_nil,Nat.zero_add];exact cont f m a h listed r own y hs
 | i::g,I,hl,p,listed,f,m,a,h,hs,hB,r,own,y,hX,cont=>by
  have B:∀i∈g,∀m' h h',pr.testBit i=true->ed h0 G1 m' h'->X h h':=fun i hi=>hX i (List.mem_cons_of_mem _ hi)
  simp only[lM,Bool.and_eq_true] at hB
  obtain⟨F,C⟩:=hB;unfold kf at hl;split at hl
  ·rename_i o t ho ht
   cases hl;have A:i<l.length:=(List.getElem?_eq_some_iff.1 ho).1
   have U:l.toArray[i]? = some o:=by simpa using ho
   have st:=RO.step1 (W:=fun a' h'=>qh P l.toArray c qs X (fun k=>pr.testBit k) QN (g.length+fuel) (listed.setIfInBounds i true) a' h') U r own y
    fun H m' a' h' V O J=>kU q z g t ht _ _ H m' a' h' (hs.set A) C V O J B cont
   rw[List.length_cons,show g.length+1+fuel=(g.length+fuel)+1 from aa];refine An (Z:=fun _=>False) (fun _ _ h=>h.elim) q z ho hs F (fun c0=>?_) (fun _ hb=>?_) (fun c0 hb=>?_)
   ·obtain⟨hd,y⟩:=y;have u:Region.wanted o (yielded l.toArray a.tmps)=gF l.toArray f o:=by rw[r.yielded];rfl
    rcases y with⟨M,y⟩|⟨M,y⟩
    ·rw[ai c0] at y;obtain⟨v,hv,J⟩:=y;exact⟨v,.inl ⟨u.trans M,by rw[r.eval];exact hv⟩,kU q z g t ht _ _ _ _ _ _ (hs.set A) C (r.put hd v) own J B cont⟩
    ·exact⟨undef,.inr ⟨u.trans M,rfl⟩,kU q z g t ht _ _ _ _ _ _ (hs.set A) C (r.put hd undef) own y B cont⟩
   ·rw[Nat.zero_testBit] at hb;cases hb
   ·by_cases c1:gE qs o.op<=1
    ·rw[ai c1] at st ⊢;exact st
    ·rw[ah c1] at st ⊢;exact fun w hc=>wpOp_mono (fun a' w' ⟨h',m',hc',O,hW⟩=>⟨h',hc',fun Y=>hX i List.mem_cons_self m' h h' Y O,hW⟩) (st w hc)
  ·cases hl
theorem sS {ops:Array Oper} {X:bJ->bJ->Prop} {pr:Nat->Bool} {QN:Act->bJ->Prop}:∀(k:Nat) (listed:Array Bool) (a:Act) (h:bJ),qh P ops c qs X pr QN k listed a h->qh P ops c qs X pr QN (k+1) listed a h
 | 0,listed,a,h,hh=>⟨fun _=>hh.2,fun i hi=>by rw[hh.1] at hi;cases hi⟩
 | k+1,listed,a,h,hh=>by
  refine⟨hh.1,fun i hi o q=>?_⟩
  have l:=hh.2 i hi o q
  split at l
  ·rename_i hc
   rw[ai hc];obtain⟨t,g,v,r,j⟩:=l;exact⟨t,g,v,r,sS k _ _ _ j⟩
  ·rename_i hc
   rw[ah hc];exact fun w p=>wpOp_mono (fun a' w' ⟨h',hc',hx,j⟩=>⟨h',hc',hx,sS k _ _ _ j⟩) (l w p)
theorem yO {ops:Array Oper} {X:bJ->bJ->Prop} {pr:Nat->Bool} {QN:Act->bJ->Prop} {k k':Nat} (g:k<=k') {listed:Array Bool} {a:Act} {h:bJ} (j:qh P ops c qs X pr QN k listed a h):qh P ops c qs X pr QN k' listed a h:=by
 induction g with
 | refl=>exact j
 | step _ i=>exact sS _ _ _ _ i
def yP (P:Program) (c:World) (qs:List FuncId) (X:bJ->bJ->Prop) (l:List Oper) (pr:Nat) (QN:Act->bJ->Prop) (fuel:Nat) (listed:Array Bool) (i:Nat) (o:Oper) (a:Act) (h:bJ):Prop :=
 if gE qs o.op<=1 then GQ P l.toArray c h i (fun a'=>qh P l.toArray c qs X (fun k=>pr.testBit k) QN fuel (listed.setIfInBounds i true) a' h) a
 else ∀w,At c h w->wpOp P l.toArray jf i (fun a' w'=>∃g,At c g w'/\(pr.testBit i=true->X h g)/\qh P l.toArray c qs X (fun k=>pr.testBit k) QN fuel (listed.setIfInBounds i true) a' g) a w
theorem yP.le {X:bJ->bJ->Prop} {l:List Oper} {pr:Nat} {QN:Act->bJ->Prop} {k k':Nat} (q:k<=k') {listed:Array Bool} {i:Nat} {o:Oper} {a:Act} {h:bJ} (g:yP P c qs X l pr QN k listed i o a h):yP P c qs X l pr QN k' listed i o a h:=by
 unfold yP at g ⊢
 split at g
 ·rename_i hc
  rw[ai hc];obtain⟨u,j,v,t,p⟩:=g;exact⟨u,j,v,t,yO q p⟩
 ·rename_i hc
  rw[ah hc];exact fun w r=>wpOp_mono (fun a' w' ⟨h',hc',hx,p⟩=>⟨h',hc',hx,yO q p⟩) (g w r)
theorem G_ {G1:ao} {X:bJ->bJ->Prop} {l:List Oper} {pr:Nat} {QN:Act->bJ->Prop} (u:Region.noSelect l.toArray=true) (C:fV 0 (l.map (dI l.toArray qs))=true)
  {K:Fr->ao->Prop} {fuel:Nat} {A:List Nat} {U:List Oper} (hl:kf l A=some U) {J:Bool} {j:Nat} {listed:Array Bool} (y:qi (l.map (dI l.toArray qs)) pr J A j=true) (hs:nD l.length j listed)
  {f:Fr} {m:ao} {a:Act} {h:bJ} (r:nL n a f) (own:ed h0 G1 m h) (O:RO P G1 qs c n h0 l.toArray K U f m) (I:∀i∈A,∀m' h p,pr.testBit i=true->ed h0 G1 m' p->X h p)
  (q:∀F m' a' p g,nL n a' F->ed h0 G1 m' p->K F m'->nD l.length (kT A j) g->qh P l.toArray c qs X (fun k=>pr.testBit k) QN fuel g a' p) :
  (J=false->qh P l.toArray c qs X (fun k=>pr.testBit k) QN (A.length+fuel) listed a h) /\
  (J=true->∀i o,A.head? = some i->l[i]? = some o->yP P c qs X l pr QN (A.length-1+fuel) listed i o a h):=by
 cases A with
 | nil =>
  refine⟨fun hb=>?_,fun hb i o hi=>by cases hi⟩
  cases hl;rw[List.length_nil,Nat.zero_add];exact q f m a h listed r own O hs
 | cons i z =>
  simp only[qi,Bool.and_eq_true] at y
  obtain⟨⟨⟨V,h2⟩,Y⟩,h4⟩:=y;refine⟨fun hb=>?_,fun hb i' o hi M=>?_⟩
  ·subst hb;rw[cond_false] at V;exact kU u C (i::z) U hl j listed f m a h hs (by simp only[lM,Bool.and_eq_true];exact⟨V,Y⟩) r own O I q
  ·cases hi;unfold kf at hl;split at hl
   ·rename_i B t ho' ht
    cases hl;obtain rfl:B=o:=Option.some.inj (ho'.symm.trans M)
    have H:i<l.length:=(List.getElem?_eq_some_iff.1 M).1
    have st:=RO.step1 (W:=fun a' p=>qh P l.toArray c qs X (fun k=>pr.testBit k) QN (z.length+fuel) (listed.setIfInBounds i true) a' p) (i:=i) (by simpa using M) r own O
     fun F m' a' p r' B hK=>kU u C z t ht _ _ F m' a' p (hs.set H) Y r' B hK (fun k hk=>I k (List.mem_cons_of_mem _ hk)) q
    unfold yP;rw[List.length_cons,Nat.add_sub_cancel];by_cases c1:gE qs B.op<=1
    ·rw[ai c1] at st ⊢;exact st
    ·rw[ah c1] at st ⊢;exact fun w hc=>wpOp_mono (fun a' w' ⟨p,m',hc',B,hW⟩=>⟨p,hc',fun hp=>I i List.mem_cons_self m' h p hp B,hW⟩) (st w hc)
   ·cases hl
def OT.pre:OT->List Nat
 | .fin A _=>A
 | .fk A _ _ _ _=>A
theorem OT.head_pre:∀(T:OT),T.head=T.pre.head?
 | .fin [] _=>rfl
 | .fin (_::_) _=>rfl
 | .fk [] _ _ _ _=>rfl
 | .fk (_::_) _ _ _ _=>rfl
theorem uu {l:List Oper} {g:Nat} {listed:Array Bool} (hs:nD l.length g listed) {j:Nat} {o:Oper} (p:l[j]? = some o) :
  j∈Region.ready .any l.toArray listed ↔ g.testBit j=false/\sub (fU o) g=true:=by
 rw[mem_ready]
 have r:j<l.length:=(List.getElem?_eq_some_iff.1 p).1
 constructor
 ·rintro⟨t,o',i,h⟩;have:o'=o:=by
   have:l[j]? = some o':=by simpa using i
   exact Option.some.inj (this.symm.trans p)
  subst this;refine⟨(hs.unlisted.1 t).2,fN.2 fun k u=>?_⟩
  obtain⟨e,q,hb,rfl⟩:=(dp o' k).1 u
  rw[<- hs.2];exact h e q hb
 ·rintro⟨t,h⟩;refine⟨hs.unlisted.2 ⟨r,t⟩,o,by simpa using p,fun e q hb=>?_⟩
  rw[hs.2];exact fN.1 h _ ((dp o e.on).2 ⟨e,q,hb,rfl⟩)
theorem DR {C:ao} {l:List Oper} {pr:Nat} {Y:Fr->ao->Prop} (H:Region.noSelect l.toArray=true) (U:fV 0 (l.map (dI l.toArray qs))=true) (hk:∀p∈C,p.1∈h0.K\/h0.h.size<=p.1) :
  ∀(T:OT) (br:Bool) (g:Nat) (listed:Array Bool) (f:Fr) (m:ao) (a:Act) (h:bJ),nD l.length g listed->Gd (l.map (dI l.toArray qs)) pr br T g=true->nL n a f->ed h0 (C++G) m h->Jy P G C qs c n h0 l Y T f m ->
  (br=false->qh P l.toArray c qs (fun h F=>ed h0 (C++G) [] h->ed h0 (C++G) [] F) (fun k=>pr.testBit k) (QN G n h0 Y) T.len listed a h) /\
  (br=true->∀i o,T.head=some i->l[i]? = some o->yP P c qs (fun h F=>ed h0 (C++G) [] h->ed h0 (C++G) [] F) l pr (QN G n h0 Y) (T.len-1) listed i o a h):=by
 intro T
 induction T with
 | fin A B =>
  intro br g listed f m a h hs dE r own hR;simp only[Gd,Bool.and_eq_true] at dE
  obtain⟨⟨⟨h1,h2⟩,h3⟩,h4⟩:=dE;obtain⟨lA,lB,O,am,V⟩:=hR;have:=G_ (X:=fun h F=>ed h0 (C++G) [] h->ed h0 (C++G) [] F) (QN:=QN G n h0 Y) (fuel:=B.length) H U O h1 hs r own V (fun _ _ _ _ _ _ o _=>o.none) fun f' m' a' F listed' r' o' hK z=>by
   refine kU (G1:=G) (K:=Y) (fuel:=0) H U B lB am _ listed' f' (m'++C) a' F z h2 r' (o'.ofG hk) hK (fun i hi _ _ _ hp=>?_) fun f2 m2 a2 a6 listed2 r2 o2 a3 al=>?_
   ·have:=List.all_eq_true.1 h3 i hi
    rw[hp] at this;cases this
   ·refine⟨?_,f2,m2,r2,o2,a3⟩
    have hm:=Nat.eq_of_beq_eq_true h4
    cases I:Region.ready .any l.toArray listed2 with
    | nil=>rfl
    | cons j q =>
     have hj:j∈Region.ready .any l.toArray listed2:=by rw[I];exact List.mem_cons_self
     obtain⟨g1,_⟩:=mem_ready.1 hj;obtain⟨g2,g3⟩:=al.unlisted.1 g1;rw[hm,List.length_map,Nat.testBit_two_pow_sub_one] at g3;simp at g3;omega
  refine⟨this.1,fun hb i o hi M=>?_⟩
  rw[OT.head_pre] at hi;refine(this.2 hb i o hi M).le ?_
  show A.length-1+B.length<=A.length+B.length-1
  cases A with
  | nil=>cases hi
  | cons _ _=>simp only[List.length_cons];omega
 | fk A i j t u aw a1 =>
  intro br g listed f m a h hs dE r own hR;simp only[Gd,Bool.and_eq_true,beq_iff_eq] at dE
  obtain⟨⟨⟨⟨⟨h1,h2⟩,h3⟩,h4⟩,h5⟩,h6⟩:=dE;obtain⟨lA,O,V⟩:=hR;have:=G_ (X:=fun h F=>ed h0 (C++G) [] h->ed h0 (C++G) [] F) (QN:=QN G n h0 Y) (fuel:=max t.len u.len) H U O h1 hs r own V (fun _ _ _ _ _ _ o _=>o.none) fun f' m' a' F listed' r' o' hK z=>by
   have bt:=(aw true _ listed' f' m' a' F z h5 r' o' hK.1).2 rfl
   have bu:=(a1 true _ listed' f' m' a' F z h6 r' o' hK.2).2 rfl
   have a4:∃o,l[i]? = some o/\i∈Region.ready .any l.toArray listed':=by
    have key:∀(T:OT),T.head=some i->Gd (l.map (dI l.toArray qs)) pr true T (kT A g)=true->Iy (l.map (dI l.toArray qs)) (kT A g) i=true:=by
     intro T J dE
     cases T with
     | fin W B' =>
      cases W with
      | nil=>cases J
      | cons x xs =>
       cases J;simp only[Gd,qi,Bool.and_eq_true,cond_true] at dE
       exact dE.1.1.1.1.1.1
     | fk W _ _ _ _ =>
      cases W with
      | nil=>cases J
      | cons x xs =>
       cases J;simp only[Gd,qi,Bool.and_eq_true,cond_true] at dE
       exact dE.1.1.1.1.1.1.1.1
    have I:=key t h3 h5
    unfold Iy at I;rw[List.getElem?_map] at I
    cases M:l[i]? with
    | none=>rw[M] at I;cases I
    | some o =>
     rw[M] at I;simp only[Option.map_some,Bool.and_eq_true,Bool.not_eq_true'] at I
     exact⟨o,rfl,(uu z M).2 I⟩
   obtain⟨oi,a5,ab⟩:=a4;have hlen:0<t.len/\0<u.len:=by
    have key:∀(T:OT) k,T.head=some k->0<T.len:=by
     intro T k J;rw[OT.head_pre] at J
     cases T with
     | fin W B' =>
      cases W with
      | nil=>cases J
      | cons _ _=>show 0<_+_;simp only[List.length_cons];omega
     | fk W _ _ t' u' =>
      cases W with
      | nil=>cases J
      | cons _ _=>show 0<_+_;simp only[List.length_cons];omega
    exact⟨key t i h3,key u j h4⟩
   obtain⟨k,ad⟩:∃k,max t.len u.len=k+1:=⟨max t.len u.len-1,aa⟩
   rw[ad];refine⟨fun ax=>(by rw[ax] at ab;cases ab),fun x hx ox a0=>?_⟩
   have y:l[x]? = some ox:=by simpa using a0
   obtain⟨g1,g2⟩:=(uu z y).1 hx
   have:=BO 0 h2 x (dI l.toArray qs ox) (by rw[List.getElem?_map,y];rfl) (by rw[Nat.zero_add];exact g1) g2
   rw[Nat.zero_add] at this;rcases this with rfl|rfl
   ·exact(bt x ox h3 y).le (show t.len-1<=k from aa)
   ·exact(bu x ox h4 y).le (show u.len-1<=k from aa)
  refine⟨this.1,fun hb i' o hi M=>?_⟩
  rw[OT.head_pre] at hi;refine(this.2 hb i' o hi M).le ?_
  show A.length-1+max t.len u.len<=A.length+max t.len u.len-1
  cases A with
  | nil=>cases hi
  | cons _ _=>simp only[List.length_cons];omega
theorem xy {B:ao} {l:List Oper} {H pr:Nat} {QN':Act->bJ->Prop} (A:Region.noSelect l.toArray=true) (I:fV 0 (l.map (dI l.toArray qs))=true) {fuel:Nat} {K:Fr->ao->Prop} :
  ∀(p:List Nat) (W:List Oper),kf l p=some W->∀(j:Nat) (listed:Array Bool) (f:Fr) (a:Act) (h:bJ),nD l.length j listed->lM (l.map (dI l.toArray qs)) H pr p j=true ->
  (p.all fun i=>match(l.map (dI l.toArray qs))[i]? with|some e=>Nat.ble e.c 1&&(Nat.beq e.c 0||H.testBit i)|none=>false)=true ->
  nL n a f->ed h0 (B++G) [] h->RO P (B++G) qs c n h0 l.toArray (fun f m=>m=[]/\K f m) W f [] ->
  (∀V a' g,nL n a' V->K V []->nD l.length (kT p j) g->qh P l.toArray c qs (fun h J=>ed h0 (B++G) [] h->ed h0 (B++G) [] J) (fun k=>pr.testBit k) QN' fuel g a' h) ->
  qh P l.toArray c qs (fun h J=>ed h0 (B++G) [] h->ed h0 (B++G) [] J) (fun k=>pr.testBit k) QN' (p.length+fuel) listed a h
 | [],W,hl,j,listed,f,a,h,hs,_,_,r,own,u,cont=>by
  cases hl;rw[List.length_nil,Nat.zero_add];exact cont f a listed r u.2 hs
 | i::p,W,hl,j,listed,f,a,h,hs,hB,hC,r,own,u,cont=>by
  simp only[lM,Bool.and_eq_true] at hB
  obtain⟨F,ab⟩:=hB;simp only[List.all_cons,Bool.and_eq_true] at hC
  obtain⟨U,al⟩:=hC;unfold kf at hl;split at hl
  ·rename_i o t ho ht
   cases hl;have y:i<l.length:=(List.getElem?_eq_some_iff.1 ho).1
   rw[List.getElem?_map,ho] at U;simp only[Option.map_some,Bool.and_eq_true,Bool.or_eq_true] at U
   obtain⟨O,ad⟩:=U;have O:gE qs o.op<=1:=Nat.le_of_ble_eq_true O
   have go:=fun V a' g r' M Y=>xy (fuel:=fuel) (QN':=QN') A I p t ht (j|||1<<<i) g V a' h Y ab al r' own M cont
   obtain⟨hd,u⟩:=u;have q:Region.wanted o (yielded l.toArray a.tmps)=gF l.toArray f o:=by rw[r.yielded];rfl
   rw[List.length_cons,show p.length+1+fuel=(p.length+fuel)+1 from aa];refine An (Z:=ed h0 (B++G) []) (fun _ _ z x=>x z) A I ho hs F (fun c0=>?_) (fun c1 hb=>?_) (fun c0 hb=>?_)
   ·rcases u with⟨C,u⟩|⟨C,u⟩
    ·rw[ai c0] at u;obtain⟨v,hv,M⟩:=u;exact⟨v,.inl ⟨q.trans C,by rw[r.eval];exact hv⟩,go _ _ _ (r.put hd v) M (hs.set y)⟩
    ·exact⟨undef,.inr ⟨q.trans C,rfl⟩,go _ _ _ (r.put hd undef) u (hs.set y)⟩
   ·rcases u with⟨C,u⟩|⟨C,u⟩
    ·rw[ah aa,ai c1] at u;obtain⟨v,hv,M⟩:=u;exact⟨v,own,fun J hz=>.inl ⟨q.trans C,fun w U=>by rw[r.eval];exact hv J w hz U⟩,go _ _ _ (r.put hd v) M (hs.set y)⟩
    ·exact⟨undef,own,fun _ _=>.inr ⟨q.trans C,rfl⟩,go _ _ _ (r.put hd undef) u (hs.set y)⟩
   ·exfalso
    rcases ad with h|h
    ·exact c0 (Nat.eq_of_beq_eq_true h)
    ·rw[hb] at h;cases h
  ·cases hl
theorem nu {Q:Exit->Fr->ao->Prop} {f:Fr} {m:ao} {id:Nat} {l:List Oper} (hm:P.follows .mixedOrders=true) (t:ao) (B pr:Nat) (M:List Nat) (T:OT) {H:List Oper} (hl:kf l M=some H) (dE:DQ l qs B pr M T=true)
  (h:RO P (t++G) qs c n h0 l.toArray (fun f m'=>m'=[]/\Jy P G t qs c n h0 l (fun f m=>Q .normal f m) T f m) H f []) :
  J P G c n h0 (.region id l.toArray true) Q f (m++t):=by
 intro a w y r hc o
 simp only[DQ,Bool.and_eq_true] at dE
 obtain⟨⟨⟨⟨⟨O,i⟩,u⟩,W⟩,U⟩,Y⟩:=dE
 have o1:=o.toG
 refine wp_region_any hm ?_
 have C:nD l.length 0 (Array.replicate l.length false):=⟨by simp,fun j=>by
  rw[Nat.zero_testBit];rcases Nat.lt_or_ge j l.length with h|h<;>simp[h]⟩
 have key:=xy (QN':=QN G n h0 fun f m=>Q .normal f m) (fuel:=T.len) i u M H hl 0 _ f a y C W U r o1.none (K:=fun f _=>Jy P G t qs c n h0 l (fun f m=>Q .normal f m) T f m) h
  fun I a' g z V A=>(DR i u (fun p y=>o.known p (List.mem_append.2 (.inr y))) T false _ g I m a' y A Y z o1 V).1 rfl
 refine ot (qs:=qs) (X:=fun h F=>ed h0 (t++G) [] h->ed h0 (t++G) [] F) (pr:=fun k=>pr.testBit k) (QN:=QN G n h0 fun f m=>Q .normal f m) (fun a' F w' hc' ⟨I,m',z,o',q⟩=>⟨I,m',F,z,hc',o',q⟩) _ _ a y _ (hc.drew _) ?_
 rw[List.size_toArray]
 exact yO (Nat.le_of_ble_eq_true O) key
end
section
variable {P:Program} {G:ao} {c:World} {n:Nat} {h0:dx} {f:Fr} {m:ao}
theorem nv {σ:Type} {id:Nat} {k rest:Code} {Q j:Exit->Fr->ao->Prop} (i:σ->List (Nat×Value)) (mem:σ->ao) (inv:σ->Prop)
  (r:J P G c n h0 k (rR id (fE (fun g m'=>∃s,inv s/\bS g (i s)/\aR m' (mem s)) Q)) f m)
  (l:∀s g,inv s->J P G c n h0 rest j (lh g (i s)) (mem s)):J P G c n h0 k (rR id (fE (fun f m=>J P G c n h0 rest j f m) Q)) f m:=by
 have go:∀g m',(∃s,inv s/\bS g (i s)/\aR m' (mem s))->J P G c n h0 rest j g m':=by
  rintro g m' ⟨s,hi,hs,q⟩;have:=l s g hi
  rw[jZ hs] at this;exact bZ q this
 refine pJ r ?_
 intro e g m' h
 cases e with
 | normal=>exact go _ _ h
 | exit p =>
  simp only[rR] at h ⊢
  split
  ·rename_i he;rw[ai he] at h;exact go _ _ h
  ·rename_i he;rw[ah he] at h;exact h
 | _=>exact h
end
section
variable {P:Program} [ty:bA P] {G:ao} {qs:List FuncId} {c:World} {n:Nat} {h0:dx} {ops:Array Oper} {Q:Fr->ao->Prop} {rest:List Oper} {f:Fr} {m:ao}
variable {d:Option Tmp} {T T' tt:TypeId} {pos:String} {aft:Array Edge}
theorem Ao {w:World} {e:TypeId} {p:Option Addr} (g:bA.tk P T = .ptr e):(Op.equal T (.pointer p) (.pointer none)).run P w = .ok p.isNone w:=eV fun k=>by
 cases p<;>simp[Op.equalIn,run_underlying (qB g)]
theorem Ap {x y:Operand} {e:TypeId} {p:Option Addr} {r:Bool} (hx:ev f x = .pointer p) (g:ev f y = .pointer none) (i:bA.tk P T = .ptr e) (j:p.isNone=r) (hd:aE n d=true)
  (h:RO P G qs c n h0 ops Q rest (aV f d (.bool r)) m):RO P G qs c n h0 ops Q (⟨d,.binOp .eql T x y T',tt,pos,aft,none⟩::rest) f m:=by
 refine dX (aZ _) rfl hd (fun _ q w l k=>⟨w,k,.inl ?_⟩) (fun h=>by cases h) h
 subst j
 simp[execOp,hx,g,eqGuard,binOp,Ao i]
theorem Aq {x y:Operand} {e:TypeId} {p:Option Addr} {r:Bool} (hx:ev f x = .pointer p) (g:ev f y = .pointer none) (i:bA.tk P T = .ptr e) (j:p.isSome=r) (hd:aE n d=true)
  (h:RO P G qs c n h0 ops Q rest (aV f d (.bool r)) m):RO P G qs c n h0 ops Q (⟨d,.binOp .neq T x y T',tt,pos,aft,none⟩::rest) f m:=by
 refine dX (aZ _) rfl hd (fun _ q w l k=>⟨w,k,.inl ?_⟩) (fun h=>by cases h) h
 subst j
 simp[execOp,hx,g,eqGuard,binOp,Ao i]
end
end Go.Eng
namespace Go.Proofs.YtogmacnlpclgkaaGreatDoor
open Go Go.Eng Go.Pz
attribute [local irreducible] RO J av aO
set_option maxRecDepth 20000
variable {G:ao} {d:Nat->Nat}
theorem DS (k:Nat) (q:Option Addr) (N u:Nat) (hd:∀i,d i<256) (hv:aU G q N u d) (hN:N<=2^40) (l:Int) (hl:l<=8*N) (F : -(2^50)<=l) (tb n y log:Nat) (r:bk) (h bits base:Nat->Nat) (O:(tb,r)∈G) (hg:DP r n h bits base)
  (hb:∀p,p<n->bits p<=30/\base p<=2^30) (s:Nat) (hs:s<n) :
  av Tryz.prog G 66 #[.agg #[.slice (bi tb) n y,ay log],bf k,ay s] [(k,cI q N u l)] (fun v m =>
   v = .int .i64 ((base s+kQ d l (bits s):Nat):Int)/\m=[(k,cI q N u (l-bits s))]):=by
 refine bE Tryz.func66 fun c h0 hex=>?_
 obtain⟨M,H⟩:=hg
 obtain⟨x1,x2,K⟩:=H s hs
 obtain⟨J,b2⟩:=hb s hs
 refine go ?_
 refine kw rfl rfl rfl hex fun C Y=>?_
 refine go ?_
 have V:ej (2+1) (fun j=>r.g (0+s*(2+1)+j))=[.int .i64 (h s:Nat),.int .i64 (bits s:Nat),.int .i64 (base s:Nat)]:=by
  show[r.g (0+s*(2+1)+0),r.g (0+s*(2+1)+1),r.g (0+s*(2+1)+2)]=_
  rw[show 0+s*(2+1)+0=s*3 from aa,show 0+s*(2+1)+1=s*3+1 from aa,show 0+s*(2+1)+2=s*3+2 from aa,x1,x2,K]
 refine gL (s:=2) rfl rfl rfl (List.mem_append.2 (.inr O)) aa rfl ?_
 rw[V]
 refine go ?_
 refine aC z138 rfl hex fun B I=>?_
 refine go ?_
 refine ak (s:=2) (vs:=[.int .i64 (h s:Nat),.int .i64 (bits s:Nat),.int .i64 (base s:Nat)]) rfl rfl rfl rfl (cC rfl) .here (aZ 3) rfl hex ?_
 refine bj (m':=[(B,aj [.int .i64 (h s:Nat),.int .i64 (bits s:Nat),.int .i64 (base s:Nat)] 138),(C,aj [.slice (bi tb) n y,ay log] 128),(k,cI q N u l)]) ci ?_
 refine kt ?_
 refine dk ?_
 refine bZ (m':=[(C,aj [.slice (bi tb) n y,ay log] 128),(k,cI q N u l)]++[(B,aj [.int .i64 (h s:Nat),.int .i64 (bits s:Nat),.int .i64 (base s:Nat)] 138)]) (.of_perm an) ?_
 refine nu mixed_ok (qs:=qsT) [(B,aj [.int .i64 (h s:Nat),.int .i64 (bits s:Nat),.int .i64 (base s:Nat)] 138)] 18 224 [0,1,2,3,4] (.fin [5,6,7] []) rfl (by kernel_rfl) ?_
 refine go ?_
 refine⟨rfl,_,_,rfl,rfl,?_⟩
 refine go ?_
 refine ar (nt k q N u hd (hv.mono fun p W=>List.mem_append.2 (.inr W)) hN l hl F (bits s) aa) ?_ (fm:=[(C,aj [.slice (bi tb) n y,ay log] 128)]) (hs:=.of_perm an)
 rintro v m ⟨rfl,rfl⟩
 have ab:=fC d l (bits s)
 have U:2^bits s<=2^30:=Nat.pow_le_pow_right aa J
 refine go ?_
 exact af (cE [6] ([(k,_)]) (junk:=[(C,_),(B,_)]) ⟨rfl,rfl⟩ (.of_perm (List.Perm.swap _ _ _)))
def DT:List Nat:=[1,1,1,1,2,2,3,3,4,6,7,8,9,10,11,12,13,14,15,16]
def DU:List Nat:=[1,1,1,1,2,2,3,3,4,4,5,7,8,9,10,11,12,13,14,15,16]
theorem Ge:∀j,j<19->(cg 0 (16+(j+1))).1=(cg 0 (16+j)).1+2^DT.getD j 0:=by decide
theorem Ar:∀j,j<20->(cg 0 (16+j)).2=DT.getD j 0/\DT.getD j 0<=16/\(cg 0 (16+j)).1<=2^20:=by decide
theorem Gf:∀j,j<20->(cg 2 (32+(j+1))).1=(cg 2 (32+j)).1+2^DU.getD j 0:=by decide
theorem As:∀j,j<21->(cg 2 (32+j)).2=DU.getD j 0/\DU.getD j 0<=16/\(cg 2 (32+j)).1<=2^20:=by decide
theorem Gg:∀j,j<20->ct (DT.map fun b=>.int .i64 ((b:Nat):Int)) j = .int .i64 ((DT.getD j 0:Nat):Int):=by
 intro j g
 rcases j with _|_|_|_|_|_|_|_|_|_|_|_|_|_|_|_|_|_|_|_|j<;>first|rfl|omega
theorem Gh:∀j,j<21->ct (DU.map fun b=>.int .i64 ((b:Nat):Int)) j = .int .i64 ((DU.getD j 0:Nat):Int):=by
 intro j g
 rcases j with _|_|_|_|_|_|_|_|_|_|_|_|_|_|_|_|_|_|_|_|_|j<;>first|rfl|omega
theorem Iz (kind c:Nat) (hk:kind<=2) (r:c<=dF kind) :
  av Tryz.prog G 64 #[ay kind,ay c] [] (fun v m=>v = .tuple #[.int .i64 ((gv kind c).1:Nat),.int .i64 ((gv kind c).2:Nat)]/\m=[]):=by
 refine bE Tryz.func64 fun c0 h0 hex=>?_
 refine go ?_
 refine ac rfl (fun W=>?_) (fun W=>?_)
 ·obtain rfl:kind=1:=aa;have r:c<=31:=r
  have V:2^c<=2^31:=Nat.pow_le_pow_right aa r
  have y:1*2^c<2^63:=aa
  refine go ?_;rw[Nat.one_mul];exact af (bx [4,5] ⟨rfl,rfl⟩)
 refine go ?_
 refine aJ 19 rfl (fun h0=>?_) (fun h0=>?_)
 ·obtain rfl:kind=0:=aa;have r:c<=35:=r
  refine go ?_;refine ac rfl (fun C=>?_) (fun C=>?_)
  ·refine go ?_;exact af (bx [4,5] ⟨by rw[show gv 0 c=(c,0) from(ai aa:(if c<16 then(c,0) else fA.getD (c-16) (0,0))=_)];rfl,rfl⟩)
  refine go ?_;refine au (z:=.int .i64 0) (vs:=[.int .i64 1,.int .i64 1,.int .i64 1,.int .i64 1,.int .i64 2,.int .i64 2,.int .i64 3,.int .i64 3,.int .i64 4,.int .i64 6,.int .i64 7,.int .i64 8,.int .i64 9,.int .i64 10,.int .i64 11,.int .i64 12,.int .i64 13,.int .i64 14,.int .i64 15,.int .i64 16]) rfl rfl z3 (by kernel_rfl) (by kernel_rfl) (by kernel_rfl) rfl hex fun p K=>?_
  obtain⟨LB,h⟩:∃LB:bk,LB=aj (DT.map fun b=>.int .i64 ((b:Nat):Int)) 3:=⟨_,rfl⟩
  have i:∀j,j<20->0+j<LB.n:=by intro j l;rw[h,Nat.zero_add];exact l
  have k:∀j,j<20->LB.g (0+j) = .int .i64 ((DT.getD j 0:Nat):Int):=by intro j l;rw[h,Nat.zero_add];exact Gg j l
  obtain⟨j0,rfl⟩:∃j0,c=16+j0:=⟨c-16,aa⟩
  have q:j0<20:=aa
  obtain⟨z1,z2,z3⟩:=Ar j0 q;refine bj (m':=(p,LB)::[]) (.cons (by rw[h];rfl) (.refl _)) ?_
  clear h;refine go ?_;refine aH (σ:=Nat) [] (fun j=>[(1,.int .i64 ((16+j0:Nat):Int)),(6,.slice (bi p) 20 20),(7,.int .i64 ((cg 0 (16+j)).1:Nat)),(8,.int .i64 16),(9,.int .i64 ((16+j:Nat):Int))]) (fun _=>(p,LB)::[]) (fun j=>j<=j0) (fun j=>j0-j) 0 (.refl _) (Nat.zero_le _) ?_
  intro j f l;obtain⟨I,J,O⟩:=Ar j aa;refine go ?_;refine ac rfl (fun H=>?_) (fun F=>?_)
  ·have u:=Ge j aa
   refine go ?_;rw[Nat.add_sub_cancel_left];refine aF (B:=LB) (v:=.int .i64 ((DT.getD j 0:Nat):Int)) rfl rfl .here (i j aa) (k j aa) rfl ?_
   have Y:2^DT.getD j 0<=2^16:=Nat.pow_le_pow_right aa J
   have y:1*2^DT.getD j 0<2^63:=aa
   refine go ?_;rw[Nat.one_mul,<- u];refine⟨j+1,aa,aa,cF,.refl _⟩
  ·obtain rfl:j=j0:=aa;refine go ?_;rw[Nat.add_sub_cancel_left];refine aF (B:=LB) (v:=.int .i64 ((DT.getD j 0:Nat):Int)) rfl rfl .here (i j aa) (k j aa) rfl ?_
   refine go ?_;exact af (bx [4,5] ⟨by rw[<- I];rfl,rfl⟩)
 ·obtain rfl:kind=2:=aa;have r:c<=52:=r
  refine go ?_;refine ac rfl (fun C=>?_) (fun C=>?_)
  ·refine go ?_;exact af (bx [4,5] ⟨by rw[show gv 2 c=(c+3,0) from(ai aa:(if c<32 then(c+3,0) else fB.getD (c-32) (0,0))=_)];rfl,rfl⟩)
  refine go ?_;refine au (z:=.int .i64 0) (vs:=[.int .i64 1,.int .i64 1,.int .i64 1,.int .i64 1,.int .i64 2,.int .i64 2,.int .i64 3,.int .i64 3,.int .i64 4,.int .i64 6,.int .i64 7,.int .i64 8,.int .i64 9,.int .i64 10,.int .i64 11,.int .i64 12,.int .i64 13,.int .i64 14,.int .i64 15,.int .i64 16]) rfl rfl z3 (by kernel_rfl) (by kernel_rfl) (by kernel_rfl) rfl hex fun M U=>?_
  refine go ?_;refine au (z:=.int .i64 0) (vs:=[.int .i64 1,.int .i64 1,.int .i64 1,.int .i64 1,.int .i64 2,.int .i64 2,.int .i64 3,.int .i64 3,.int .i64 4,.int .i64 4,.int .i64 5,.int .i64 7,.int .i64 8,.int .i64 9,.int .i64 10,.int .i64 11,.int .i64 12,.int .i64 13,.int .i64 14,.int .i64 15,.int .i64 16]) rfl rfl z3 (by kernel_rfl) (by kernel_rfl) (by kernel_rfl) rfl hex fun p K=>?_
  obtain⟨LB,h⟩:∃LB:bk,LB=aj (DU.map fun b=>.int .i64 ((b:Nat):Int)) 3:=⟨_,rfl⟩
  have i:∀j,j<21->0+j<LB.n:=by intro j l;rw[h,Nat.zero_add];exact l
  have k:∀j,j<21->LB.g (0+j) = .int .i64 ((DU.getD j 0:Nat):Int):=by intro j l;rw[h,Nat.zero_add];exact Gh j l
  obtain⟨j0,rfl⟩:∃j0,c=32+j0:=⟨c-32,aa⟩
  have q:j0<21:=aa
  obtain⟨z1,z2,z3⟩:=As j0 q;refine bj (m':=(p,LB)::[(M,_)]) (.cons (by rw[h];rfl) (.refl _)) ?_
  clear h;refine go ?_;refine aH (σ:=Nat) [] (fun j=>[(1,.int .i64 ((32+j0:Nat):Int)),(6,.slice (bi p) 21 21),(7,.int .i64 ((cg 2 (32+j)).1:Nat)),(8,.int .i64 32),(9,.int .i64 ((32+j:Nat):Int))]) (fun _=>(p,LB)::[(M,_)]) (fun j=>j<=j0) (fun j=>j0-j) 0 (.refl _) (Nat.zero_le _) ?_
  intro j f l;obtain⟨I,J,O⟩:=As j aa;refine go ?_;refine ac rfl (fun H=>?_) (fun F=>?_)
  ·have u:=Gf j aa
   refine go ?_;rw[Nat.add_sub_cancel_left];refine aF (B:=LB) (v:=.int .i64 ((DU.getD j 0:Nat):Int)) rfl rfl .here (i j aa) (k j aa) rfl ?_
   have Y:2^DU.getD j 0<=2^16:=Nat.pow_le_pow_right aa J
   have y:1*2^DU.getD j 0<2^63:=aa
   refine go ?_;rw[Nat.one_mul,<- u];refine⟨j+1,aa,aa,cF,.refl _⟩
  ·obtain rfl:j=j0:=aa;refine go ?_;rw[Nat.add_sub_cancel_left];refine aF (B:=LB) (v:=.int .i64 ((DU.getD j 0:Nat):Int)) rfl rfl .here (i j aa) (k j aa) rfl ?_
   refine go ?_;exact af (bx [4,5] ⟨by rw[<- I];rfl,rfl⟩)
structure SB where
 oa:Option Addr
 ol:Nat
 cp:Nat
 win:Nat
 most:Nat
 tr:Option Addr
 t0:Option Addr
 t1:Option Addr
 t2:Option Addr
 o1:Nat
 o2:Nat
 o3:Nat
def SB.vs (x:SB):List Value:=[.slice x.oa x.ol x.cp,ay x.win,ay x.most,.pointer x.tr,.pointer x.t0,.pointer x.t1,.pointer x.t2,ay x.o1,ay x.o2,ay x.o3]
def dW (x:SB):bk:=aj [.slice x.oa x.ol x.cp,ay x.win,ay x.most,.pointer x.tr,.pointer x.t0,.pointer x.t1,.pointer x.t2,ay x.o1,ay x.o2,ay x.o3] 109
abbrev SB.wOff (x:SB) (a b c:Nat):SB:={ x with o1:=a,o2:=b,o3:=c }
theorem DV (sb:Nat) (x:SB) (v:Nat) (P:Prop) [Decidable P] (u:1<=v) (I:v<=2^40) (J:1<=x.o1) (l:x.o1<=2^40) :
  av Tryz.prog G 65 #[bf sb,ay v,.bool (decide P)] [(sb,dW x)] (fun w m=>w = .int .i64 ((sOff v (decide P) x.o1 x.o2 x.o3).1:Nat) /\
   m=[(sb,dW (x.wOff (sOff v (decide P) x.o1 x.o2 x.o3).2.1 (sOff v (decide P) x.o1 x.o2 x.o3).2.2.1 (sOff v (decide P) x.o1 x.o2 x.o3).2.2.2))]):=by
 refine bE Tryz.func65 fun c0 h0 hex=>?_
 refine go ?_
 refine ac rfl (fun B=>?_) (fun B=>?_)
 ·have g:sOff v (decide P) x.o1 x.o2 x.o3=(v-3,v-3,x.o1,x.o2):=ai aa
  rw[g];dsimp only;refine go ?_;refine gc (vs:=[.int .i64 (v-3:Nat),ay x.o1,ay x.o2]) rfl rfl z104 rfl rfl rfl rfl ?_
  refine go ?_;refine ak (s:=2) (vs:=[.int .i64 (v-3:Nat),ay x.o1,ay x.o2]) rfl rfl rfl rfl (cC rfl) .here (by show 0+7+(2+1)<=10;decide) rfl hex ?_
  refine go ?_;exact af (cE [6] ([(sb,_)]) (junk:=[]) ⟨rfl,rfl⟩ ci)
 ·have g:sOff v (decide P) x.o1 x.o2 x.o3=(let k:=v-1+if decide P=true then 1 else 0;if k=1 then(x.o2,x.o2,x.o1,x.o3) else if k=2 then(x.o3,x.o3,x.o1,x.o2) else if k=3 then(x.o1-1,x.o1-1,x.o1,x.o2) else(x.o1,x.o1,x.o2,x.o3)):=ah aa
  dsimp only at g;refine go ?_;refine bp (σ:=Nat) [] (fun k=>[(0,bf sb),(7,ay k)]) (fun _=>[(sb,dW x)]) (fun k=>k=v-1+if decide P=true then 1 else 0) ?_ ?_
  ·refine ac (p:=P) rfl (fun h=>?_) (fun h=>?_)
   ·refine go ?_;exact⟨v-1+1,by rw[ai (decide_eq_true h)],cF,.refl _⟩
   ·refine go ?_;exact⟨v-1,by rw[ah (by rw[decide_eq_false h];decide)];rfl,cF,.refl _⟩
  rintro k f i;rw[<- i] at g;have r:k<=4:=by rw[i];split<;>omega
  clear i;refine go ?_;refine cz (s:=2) rfl rfl rfl .here (by show 0+7+(2+1)<=10;decide) rfl ?_
  refine go ?_;refine aC z104 rfl hex fun j y=>?_
  refine go ?_;refine ak (s:=2) (vs:=[ay x.o1,ay x.o2,ay x.o3]) rfl rfl rfl rfl (cC rfl) .here (by decide) rfl hex ?_
  refine go ?_;refine bZ (m':=[(j,aj [ay x.o1,ay x.o2,ay x.o3] 104),(sb,dW x)]) ci ?_
  refine nv (σ:=Nat×Nat×Nat) (fun t=>[(0,bf sb)]) (fun t=>[(j,aj [ay x.o1,ay x.o2,ay x.o3] 104),(sb,dW (x.wOff t.1 t.2.1 t.2.2))]) (fun t=>sOff v (decide P) x.o1 x.o2 x.o3=(t.1,t)) ?_ ?_
  ·refine ac rfl (fun q=>?_) (fun q=>?_)
   ·rw[ai aa] at g;refine go ?_;refine gc (vs:=[ay x.o2,ay x.o1,ay x.o3]) rfl rfl z104 rfl rfl rfl rfl ?_
    refine go ?_;refine ak (s:=2) (vs:=[ay x.o2,ay x.o1,ay x.o3]) rfl rfl rfl rfl (cC rfl) (.there .here) (by show 0+7+(2+1)<=10;decide) rfl hex ?_
    refine go ?_;exact⟨(x.o2,x.o1,x.o3),g,⟨rfl,trivial⟩,.cons rfl ci⟩
   rw[ah aa] at g;refine go ?_;refine ac rfl (fun C=>?_) (fun C=>?_)
   ·rw[ai aa] at g;refine go ?_;refine gc (vs:=[ay x.o3,ay x.o1,ay x.o2]) rfl rfl z104 rfl rfl rfl rfl ?_
    refine go ?_;refine ak (s:=2) (vs:=[ay x.o3,ay x.o1,ay x.o2]) rfl rfl rfl rfl (cC rfl) (.there .here) (by show 0+7+(2+1)<=10;decide) rfl hex ?_
    refine go ?_;exact⟨(x.o3,x.o1,x.o2),g,⟨rfl,trivial⟩,.cons rfl ci⟩
   rw[ah aa] at g;refine go ?_;refine ac rfl (fun F=>?_) (fun F=>?_)
   ·rw[ai aa] at g;refine go ?_;refine gc (vs:=[.int .i64 (x.o1-1:Nat),ay x.o1,ay x.o2]) rfl rfl z104 rfl rfl rfl rfl ?_
    refine go ?_;refine ak (s:=2) (vs:=[.int .i64 (x.o1-1:Nat),ay x.o1,ay x.o2]) rfl rfl rfl rfl (cC rfl) (.there .here) (by show 0+7+(2+1)<=10;decide) rfl hex ?_
    refine go ?_;exact⟨(x.o1-1,x.o1,x.o2),g,⟨rfl,trivial⟩,.cons rfl ci⟩
   rw[ah aa] at g;refine go ?_;exact⟨(x.o1,x.o2,x.o3),g,⟨rfl,trivial⟩,.cons rfl ci⟩
  rintro⟨a,b,c⟩ f H;rw[H];refine go ?_;exact af (cE [6] ([(sb,_)]) (junk:=[(j,_)]) ⟨rfl,rfl⟩ (.of_perm (List.Perm.swap _ _ _)))
def vH (t:Option dV) (p:Option Addr) (m:ao):Prop:=match t with
 | none=>p=none/\m=[]
 | some T=>∃pb tb g,p=some ⟨pb,0,none⟩/\m=[(pb,ir tb (2^T.log) T.log),(tb,g)]/\DP g (2^T.log) T.sym T.bits T.base
theorem IA (kind:Nat) (h:kind<=2):av Tryz.prog G 57 #[ay kind] [] (fun v m=>v = .tuple #[.int .i64 (dF kind:Nat),.int .i64 (dD kind:Nat)]/\m=[]):=by
 refine bE Tryz.func57 fun c0 h0 hex=>?_
 refine go ?_
 refine ac rfl (fun k0=>?_) (fun k0=>?_)
 ·obtain rfl:kind=0:=aa;refine go ?_;exact af (bx [2,3] ⟨rfl,rfl⟩)
 refine go ?_
 refine ac rfl (fun g=>?_) (fun g=>?_)
 ·obtain rfl:kind=1:=aa;refine go ?_;exact af (bx [2,3] ⟨rfl,rfl⟩)
 obtain rfl:kind=2:=aa
 refine go ?_
 exact af (bx [2,3] ⟨rfl,rfl⟩)
theorem DW (s:Nat):av Tryz.prog G 59 #[ay s] [] (fun v m=>∃tb h,v = .agg #[.slice (bi tb) 1 1,.int .i64 0]/\m=[(tb,h)]/\DP h 1 (fun _=>s) (fun _=>0) (fun _=>0)):=by
 refine bE Tryz.func59 fun c0 h0 hex=>?_
 refine go ?_
 refine aC z128 rfl hex fun g j=>?_
 refine go ?_
 refine bU (vs:=[ay s,.int .i64 0,.int .i64 0]) rfl rfl z138 rfl rfl rfl rfl ?_
 refine go ?_
 refine eK (s:=2) [[ay s,.int .i64 0,.int .i64 0]] rfl rfl z138 rfl (by decide) (fun a i=>by rw[List.mem_singleton.1 i];rfl) rfl rfl rfl hex fun tb k=>?_
 refine go ?_
 refine bU (vs:=[.slice (bi tb) 1 1,.int .i64 0]) rfl rfl z128 rfl rfl rfl rfl ?_
 refine go ?_
 refine ak (s:=1) (vs:=[.slice (bi tb) 1 1,.int .i64 0]) rfl rfl rfl rfl (cC rfl) (.there .here) (aZ 2) rfl hex ?_
 refine go ?_
 refine af ?_
 refine cH [.cell 2 128] [.agg #[.slice (bi tb) 1 1,.int .i64 0]] ⟨⟨g,0,1,_,rfl,rfl,rfl,List.mem_cons_of_mem _ List.mem_cons_self,aZ 2,rfl⟩,trivial⟩ (post:=[(tb,_)]) (junk:=[(g,_)])
  ⟨tb,_,rfl,rfl,?_⟩ rfl (.refl _)
 refine⟨aZ 3,fun q l=>?_⟩
 obtain rfl:q=0:=aa
 exact⟨rfl,rfl,rfl⟩
theorem vI (kind i:Nat) (hi:i<(yL kind).length):ct ((yL kind).map (.int .i64)) i = .int .i64 (BK kind i):=by
 unfold BK ct
 rw[List.getD_eq_getElem?_getD,List.getD_eq_getElem?_getD,List.getElem?_map,List.getElem?_eq_getElem hi]
 rfl
theorem DX:∀kind,kind<=2->fe (BK kind) (yL kind).length (2^(fo kind).log)/\(yL kind).length<=53
 | 0,_=>⟨⟨dO.of_log (by decide) (by decide),by decide +kernel,by decide +kernel⟩,by decide⟩
 | 1,_=>⟨⟨dO.of_log (by decide) (by decide),by decide +kernel,by decide +kernel⟩,by decide⟩
 | 2,_=>⟨⟨dO.of_log (by decide) (by decide),by decide +kernel,by decide +kernel⟩,by decide⟩
theorem Gi (kind:Nat) (C:kind<=2):av Tryz.prog G 58 #[ay kind] [] (fun v m=>∃p,v = .pointer p/\vH (some (fo kind)) p m):=by
 refine bE Tryz.func58 fun c0 h0 hex=>?_
 obtain⟨u,I⟩:=DX kind C
 refine go ?_
 refine nv (σ:=Nat×bk) (fun t=>[(3,.slice (bi t.1) (yL kind).length (yL kind).length),(4,.int .i64 ((fo kind).log:Nat))]) (fun t=>[(t.1,t.2)]) (fun t=>t.2.n=(yL kind).length/\∀i,i<(yL kind).length->t.2.g i = .int .i64 (BK kind i)) ?_ ?_
 ·refine ac rfl (fun k0=>?_) (fun k0=>?_)
  ·obtain rfl:kind=0:=aa;refine go ?_;refine au (z:=.int .i64 0) (vs:=(yL 0).map (.int .i64)) rfl rfl z3 (by kernel_rfl) (by kernel_rfl) (by kernel_rfl) rfl hex fun h k=>?_
   refine go ?_;exact⟨(h,_),⟨rfl,fun i hi=>vI 0 i hi⟩,cF,.refl _⟩
  refine go ?_;refine ac rfl (fun y=>?_) (fun y=>?_)
  ·obtain rfl:kind=1:=aa;refine go ?_;refine au (z:=.int .i64 0) (vs:=(yL 1).map (.int .i64)) rfl rfl z3 (by kernel_rfl) (by kernel_rfl) (by kernel_rfl) rfl hex fun h k=>?_
   refine go ?_;exact⟨(h,_),⟨rfl,fun i hi=>vI 1 i hi⟩,cF,.refl _⟩
  refine go ?_;refine ac rfl (fun r=>?_) (fun r=>absurd r aa)
  obtain rfl:kind=2:=aa;refine go ?_;refine au (z:=.int .i64 0) (vs:=(yL 2).map (.int .i64)) rfl rfl z3 (by kernel_rfl) (by kernel_rfl) (by kernel_rfl) rfl hex fun h k=>?_
  refine go ?_;exact⟨(h,_),⟨rfl,fun i hi=>vI 2 i hi⟩,cF,.refl _⟩
 rintro⟨h,LB⟩ f ⟨l,j⟩
 dsimp only at l j ⊢
 refine go ?_
 refine ar (av.freeze (fm:=[(h,LB)]) (qg (bi h) (yL kind).length (yL kind).length (BK kind) ⟨aZ _,.inr ⟨h,0,LB,rfl,List.mem_cons_self,fun _=>aa,fun i hi=>by rw[Nat.zero_add];exact j i hi⟩⟩ (fo kind).log u (by have:=u.ok.le;exact(Nat.pow_le_pow_iff_right (by omega:1<2)).1 (Nat.le_trans this (by decide))) aa)) ?_ (fm:=[]) (hs:=.refl _)
 rintro v m ⟨H,⟨tb,q,rfl,rfl,F⟩,rfl⟩
 refine go ?_
 refine aC z128 rfl hex fun pb B=>?_
 refine go ?_
 refine ak (s:=1) (vs:=[.slice (bi tb) (2^(fo kind).log) (2^(fo kind).log),.int .i64 ((fo kind).log:Nat)]) rfl rfl rfl rfl (cC rfl) .here (aZ 2) rfl hex ?_
 refine go ?_
 exact af (cE [2] ([(pb,ir tb (2^(fo kind).log) (fo kind).log),(tb,q)]) (junk:=[(h,LB)]) ⟨_,rfl,pb,tb,q,rfl,rfl,F⟩ ci)
end Go.Proofs.YtogmacnlpclgkaaGreatDoor
