/- Texts 05. -/
import Derived.ScopeJumps
import Derived.Test.YtogmacnlpclgkaaGreatDoorX04
set_option linter.all false
namespace Go.Eng
open Go
inductive kc:ao->Nat->bk->ao->Prop
 | here {b:Nat} {B B':bk} {m:ao} (h:B.obj=B'.obj):kc ((b,B)::m) b B' m
 | there {b:Nat} {B:bk} {x:Nat×bk} {m m':ao}:kc m b B m'->kc (x::m) b B (x::m')
theorem aR.perm {m m':ao} (h:m.Perm m'):aR m m':=.of_perm h
theorem kc.eqv {m m':ao} {b:Nat} {B:bk} (h:kc m b B m'):aR m ((b,B)::m'):=by
 induction h with
 | here h=>exact .cons h (.refl _)
 | there _ g=>exact(aR.skip g).trans (.of_perm (List.Perm.swap _ _ _))
inductive f_:ao->ao->ao->Prop
 | nil {m:ao}:f_ m [] m
 | all {m:ao}:f_ m m []
 | allN {m:ao}:f_ (m++[]) m []
 | pref {m l:ao}:f_ (m++l) m l
 | suf {m l:ao}:f_ (l++m) m l
 | skip {m pre fm:ao} {x:Nat×bk}:f_ m pre fm->f_ (x::m) pre (x::fm)
 | cons {m m' pre fm:ao} {b:Nat} {B:bk}:kc m b B m'->f_ m' pre fm->f_ m ((b,B)::pre) fm
theorem f_.eqv {m pre fm:ao} (h:f_ m pre fm):aR m (pre++fm):=by
 induction h with
 | nil=>exact .refl _
 | all=>simpa using aR.refl _
 | allN=>exact aR.refl _
 | pref=>exact aR.refl _
 | suf=>exact .of_perm List.perm_append_comm
 | skip _ g=>exact(aR.skip g).trans (.of_perm List.perm_middle.symm)
 | cons t _ g=>exact t.eqv.trans (.skip g)
theorem Hj {n:Nat} {g j:Nat->Value} (h:ej n g=ej n j):∀i,i<n->g i=j i:=by
 intro i hi
 have k:=fF n g i hi
 have l:=fF n j i hi
 rw[h] at k
 rw[k] at l
 exact Option.some.inj l
theorem E3 {n:Nat} {g i:Nat->Value} {T:TypeId} {fr:Nat×Nat} (h:ej n g=ej n i):(bk.mk n g T fr).obj=(bk.mk n i T fr).obj:=by
 unfold bk.obj;rw[bk.cells_congr (Hj h)]
theorem aW {B B':bk} (j:B.n=B'.n) (i:B.T=B'.T) (hf:B.fr=B'.fr) (h:ej B.n B.g=ej B.n B'.g):B.obj=B'.obj:=by
 obtain⟨n,g,T,fr⟩:=B
 obtain⟨n',l,T',k⟩:=B'
 simp only at j i hf h
 subst j i hf
 exact E3 h
theorem c9 {n:Nat} {g j:Nat->Value} {T:TypeId} {fr:Nat×Nat} (h:∀i,i<n->g i=j i):(bk.mk n g T fr).obj=(bk.mk n j T fr).obj:=by
 unfold bk.obj;rw[bk.cells_congr h]
section
variable {P:Program} [ty:bA P] {G:ao} {qs:List FuncId} {c:World} {n:Nat} {h0:dx} {ops:Array Oper} {Q:Fr->ao->Prop} {rest:List Oper} {f:Fr} {m:ao}
variable {d:Option Tmp} {T T' tt:TypeId} {pos:String} {aft:Array Edge}
omit ty in
theorem mr {o:Oper} {fid:FuncId} {vs:Array Value} {pre fm:ao} {R:Value->ao->Prop} (h:gE qs o.op=2) (hg:o.guard=none) (hd:aE n o.dst=true)
  (k:∀w,(execOp (ev f) o).run P w = .ok (.enter fid vs) w) (ht:av P G fid vs pre R) (hs:aR m (pre++fm))
  (hex:h0.ex=false) (p:∀v m',R v m'->RO P G qs c n h0 ops Q rest (aV f o.dst v) (m'++fm)):RO P G qs c n h0 ops Q (o::rest) f m:=by
 refine ku h hg hd fun j w i u a r=>?_
 have o1:=i.eqv hs
 unfold Oper.wp
 rw[r.eval,k w]
 refine(ht c j w u o1.startSub).mono ?_
 rintro e w' ⟨v,m',q,rfl,g,l,t⟩
 exact⟨_,_,q,r.put hd v,g,o1.call hex l,p v m' t⟩
omit ty in
theorem wA {o:Oper} {fid:FuncId} {vs:Array Value} {pre fm:ao} {R:Value->ao->Prop} (h:gE qs o.op=2) (hg:o.guard=none) (hd:aE n o.dst=true)
  (k:∀w,(execOp (ev f) o).run P w = .ok (.enter fid vs) w) (ht:av P G fid vs pre R) (hs:aR m (pre++fm))
  (hex:h0.ex=false) (p:∀v m',R v m'->RO P G qs c n h0 ops Q rest (aV f o.dst v) (fm++m')):RO P G qs c n h0 ops Q (o::rest) f m:=by
 refine ku h hg hd fun j w i u a r=>?_
 have o1:=i.eqv hs
 unfold Oper.wp
 rw[r.eval,k w]
 refine(ht c j w u o1.startSub).mono ?_
 rintro e w' ⟨v,m',q,rfl,g,l,t⟩
 exact⟨_,_,q,r.put hd v,g,(o1.call hex l).eqv (.of_perm List.perm_append_comm),p v m' t⟩
theorem ga {α β:Type} {l:List α} {g:α->β} {vs:List β} (h:l.map g=vs):l.toArray.map g=vs.toArray:=by subst h;simp
theorem ae {l:List Operand} {g:Array TypeId} {fid:FuncId} {vs:List Value} {pre fm:ao} {R:Value->ao->Prop} (ht:av P G fid vs.toArray pre R)
  (h:∀v m',R v m'->RO P G qs c n h0 ops Q rest (aV f d v) (m'++fm))
  (hx:l.map (ev f)=vs:=by exact rfl) (i:qs.contains fid=false:=by exact rfl) (hgo:bA.go P fid=true:=by exact rfl) (hd:aE n d=true:=by exact rfl)
  (hs:aR m (pre++fm):=by first|exact aR.refl _|(apply f_.eqv;repeat(first|exact .nil|exact .all|exact .allN|exact .pref|exact .suf|(apply f_.cons;(focus ((repeat(first|exact .here (by first|with_reducible rfl|exact aW rfl rfl rfl rfl|exact rfl)|apply kc.there));done)))|apply f_.skip)))
  (hex:h0.ex=false:=by with_reducible assumption) :
  RO P G qs c n h0 ops Q (⟨d,.call ⟨.value (.func fid),l.toArray,g⟩,tt,pos,aft,none⟩::rest) f m :=
 mr (by unfold gE;simp only[i];rfl) rfl hd (fun w=>by rw[oN (f:=f) (fid:=fid) (first:=#[]) (captured:=#[]) rfl (ga hx) hgo];simp) ht hs hex h
theorem ar {l:List Operand} {g:Array TypeId} {fid:FuncId} {vs:List Value} {pre fm:ao} {R:Value->ao->Prop} (ht:av P G fid vs.toArray pre R)
  (h:∀v m',R v m'->RO P G qs c n h0 ops Q rest (aV f d v) (fm++m'))
  (hx:l.map (ev f)=vs:=by exact rfl) (i:qs.contains fid=false:=by exact rfl) (hgo:bA.go P fid=true:=by exact rfl) (hd:aE n d=true:=by exact rfl)
  (hs:aR m (pre++fm):=by first|exact aR.refl _|(apply f_.eqv;repeat(first|exact .nil|exact .all|exact .allN|exact .pref|exact .suf|(apply f_.cons;(focus ((repeat(first|exact .here (by first|with_reducible rfl|exact aW rfl rfl rfl rfl|exact rfl)|apply kc.there));done)))|apply f_.skip)))
  (hex:h0.ex=false:=by with_reducible assumption) :
  RO P G qs c n h0 ops Q (⟨d,.call ⟨.value (.func fid),l.toArray,g⟩,tt,pos,aft,none⟩::rest) f m :=
 wA (by unfold gE;simp only[i];rfl) rfl hd (fun w=>by rw[oN (f:=f) (fid:=fid) (first:=#[]) (captured:=#[]) rfl (ga hx) hgo];simp) ht hs hex h
theorem aA {l:List Operand} {i:Array TypeId} {fid:FuncId} {vs:List Value} {v:Value} (ht:aO P G fid vs.toArray m v)
  (t:RO P G qs c n h0 ops Q rest (aV f d v) m)
  (hx:l.map (ev f)=vs:=by exact rfl) (k:qs.contains fid=true:=by exact rfl) (hgo:bA.go P fid=true:=by exact rfl) (hd:aE n d=true:=by exact rfl) :
  RO P G qs c n h0 ops Q (⟨d,.call ⟨.value (.func fid),l.toArray,i⟩,tt,pos,aft,none⟩::rest) f m:=by
 refine dX (v:=v) (by unfold gE;simp only[k];exact aZ _) rfl hd (fun _ r w j q=>⟨w,q,.inr ⟨fid,vs.toArray,?_,?_⟩⟩) (fun h=>?_) t
 ·rw[oN (f:=f) (fid:=fid) (first:=#[]) (captured:=#[]) rfl (ga hx) hgo];simp
 ·exact ht c r w q (fun p g=>j.has p g) j.nodup
 ·unfold gE at h;simp only[k] at h;cases h
theorem jw {t:Nat} {l:List Operand} {g:Array TypeId} {fid:FuncId} {first captured:List Value} {vs ws:List Value} {pre fm:ao} {R:Value->ao->Prop} (ht:av P G fid ws.toArray pre R)
  (i:∀v m',R v m'->RO P G qs c n h0 ops Q rest (aV f d v) (m'++fm))
  (hf:f t = .func (.func fid) first.toArray captured.toArray:=by exact rfl) (hx:l.map (ev f)=vs:=by exact rfl) (h:first++vs++captured=ws:=by exact rfl) (hgo:bA.go P fid=true:=by exact rfl) (hd:aE n d=true:=by exact rfl)
  (hs:aR m (pre++fm):=by first|exact aR.refl _|(apply f_.eqv;repeat(first|exact .nil|exact .all|exact .allN|exact .pref|exact .suf|(apply f_.cons;(focus ((repeat(first|exact .here (by first|with_reducible rfl|exact aW rfl rfl rfl rfl|exact rfl)|apply kc.there));done)))|apply f_.skip)))
  (hex:h0.ex=false:=by with_reducible assumption) :
  RO P G qs c n h0 ops Q (⟨d,.call ⟨.value (.tmp t),l.toArray,g⟩,tt,pos,aft,none⟩::rest) f m:=by
 refine mr rfl rfl hd (fun w=>?_) ht hs hex i
 rw[oN (f:=f) (x:=.tmp t) (fid:=fid) hf (ga hx) hgo w,<- h]
 simp
end
theorem ag {P:Program} {G:ao} {c:World} {fn:Func} {h0:dx} {R:Value->ao->Prop} {f:Fr} {m:ao} (h:List Nat) {post junk:ao} (i:R (mq (h.map f)) post)
  (g:fn.results=(h.map ResultVar.tmp).toArray:=by exact rfl) (hs:aR m (post++junk):=by first|exact aR.refl _|(apply f_.eqv;repeat(first|exact .nil|exact .all|exact .allN|exact .pref|exact .suf|(apply f_.cons;(focus ((repeat(first|exact .here (by first|with_reducible rfl|exact aW rfl rfl rfl rfl|exact rfl)|apply kc.there));done)))|apply f_.skip))) :
  Ends P G c fn h0 R .ret f m:=cL h g hs i
theorem bY {P:Program} {G:ao} {c:World} {fn:Func} {h0:dx} {R:Value->ao->Prop} {f:Fr} {m:ao} (h:List Nat) {post junk:ao} (i:R (mq (h.map f)) post)
  (g:fn.results=(h.map ResultVar.tmp).toArray:=by exact rfl) (hs:aR m (post++junk):=by first|exact aR.refl _|(apply f_.eqv;repeat(first|exact .nil|exact .all|exact .allN|exact .pref|exact .suf|(apply f_.cons;(focus ((repeat(first|exact .here (by first|with_reducible rfl|exact aW rfl rfl rfl rfl|exact rfl)|apply kc.there));done)))|apply f_.skip))) :
  Ends P G c fn h0 R .normal f m:=wy h g hs i
end Go.Eng
namespace Go.Eng
open Go
section
variable {P:Program} {G:ao} {c:World} {n:Nat} {h0:dx} {Q:Exit->Fr->ao->Prop} {f:Fr} {m:ao}
def CC (l:Nat) (K:Fr->ao->Prop) (Q:Exit->Fr->ao->Prop):Exit->Fr->ao->Prop
 | .goto l',f,m=>l'=l/\K f m
 | e,f,m=>Q e f m
theorem E4 {rest:Code} (l:Nat) (I:Nat->Fr->ao->Prop) {k0:Nat} (O:I k0 f m)
  (pass:∀k f m,I k f m->J P G c n h0 rest (CC l (fun p m'=>∃k',k'<k/\I k' p m') Q) f m):J P G c n h0 (.scope (.seq (.label l) rest)) Q f m:=by
 intro a w A r Y o b k cs
 let C:=Code.seq (.label l) rest
 have hg:gotoIn l (.inScope C::k)=some (.code (.seq .skip rest) :: .inScope C::k):=by simp[gotoIn,C,findLabel]
 have key:∀K,∀f m a w A,nL n a f->At c A w->ed h0 G m A->I K f m ->
   ∃e a' w',Cv G c n h0 Q e a' w'/\Arrives P (lone (b.at a (.code rest :: .inScope C::k)) cs w) b k cs e a' w':=by
  intro K
  induction K using Nat.strongRecOn with
  | _ K ih =>
   intro f m a w A r Y o O;obtain⟨e,t,j,⟨p,m',z,y,i,B,q⟩,g⟩:=pass K f m O a w A r Y o b (.inScope C::k) cs
   cases e with
   | normal=>exact⟨.normal,t,j,⟨p,m',z,y,i,B,q⟩,Steps.trans g (.one step_inScope)⟩
   | exit id=>exact⟨.exit id,t,j,⟨p,m',z,y,i,B,q⟩,fun k' hk=>g k' (by simp[exitTo,hk])⟩
   | goto l' =>
    obtain⟨rfl,K',F,V⟩:=q;obtain⟨H,U,W,u,h⟩:=ih K' F p m' t j z y i B V;have M:Steps P (lone (b.at t (.code (.seq .skip rest) :: .inScope C::k)) cs j) (lone (b.at t (.code rest :: .inScope C::k)) cs j) :=
     .head step_seq (.one step_skip)
    exact⟨H,U,W,u,.of_steps (Steps.trans (g _ hg) M) h⟩
   | ret=>exact⟨_,t,j,⟨p,m',z,y,i,B,q⟩,g⟩
   | panic ch=>exact⟨_,t,j,⟨p,m',z,y,i,B,q⟩,g⟩
   | outgrown=>exact⟨_,t,j,⟨p,m',z,y,i,B,q⟩,g⟩
 obtain⟨H,U,W,u,h⟩:=key k0 f m a w A r Y o O
 exact⟨H,U,W,u,.of_steps (.head step_scope (.head step_seq (.one step_label))) h⟩
theorem CD {σ:Type} {rest:Code} (l:Nat) (g:σ->List (Nat×Value)) (mem:σ->ao) (inv:σ->Prop) (meas:σ->Nat) (j:σ) (hf:bS f (g j)) (q:aR m (mem j)) (hi:inv j)
  (pass:∀s f,inv s->J P G c n h0 rest (CC l (fun r m'=>∃i,meas i<meas s/\inv i/\bS r (g i)/\aR m' (mem i)) Q) (lh f (g s)) (mem s)) :
  J P G c n h0 (.scope (.seq (.label l) rest)) Q f m:=by
 refine E4 l (fun k f m=>∃s,k=meas s/\inv s/\bS f (g s)/\aR m (mem s)) (k0:=meas j) ⟨j,rfl,hi,hf,q⟩ ?_
 rintro k f m ⟨s,rfl,hi,hs,q⟩
 have p:=pass s f hi
 rw[jZ hs] at p
 refine bZ q (pJ p ?_)
 intro e r m' h
 cases e<;>first|exact h|skip
 obtain⟨rfl,i,p,t,u,y⟩:=h
 exact⟨rfl,meas i,p,i,rfl,t,u,y⟩
end
end Go.Eng
namespace Go.Eng
open Go
section
variable {P:Program} [ty:bA P] {G:ao} {qs:List FuncId} {c:World} {n:Nat} {h0:dx} {ops:Array Oper} {Q:Fr->ao->Prop} {rest:List Oper} {f:Fr} {m:ao}
variable {d:Option Tmp} {T T' tt:TypeId} {pos:String} {aft:Array Edge}
theorem au {l:List (Nat×Operand)} {len e:Nat} {z:Value} {vs:List Value} (V:bA.tk P T = .sl e) (hs:bA.sz P e=1) (u:dv P e=some [z]) (hlen:Nat.ble len 16777216=true)
  (A:(fO f l).all (fun p=>Nat.blt p.1 len&&dJ p.2)=true) (F:nY (List.replicate len z) (fO f l)=vs) (hd:aE n d=true) (hex:h0.ex=false)
  (h:∀b,h0.h.size<=b->RO P G qs c n h0 ops Q rest (aV f d (.slice (some ⟨b,0,none⟩) len len)) ((b,aj vs e)::m)) :
  RO P G qs c n h0 ops Q (⟨d,.buildSlice T len l.toArray,tt,pos,aft,none⟩::rest) f m:=by
 refine oL rfl rfl hd fun K w I B a r=>?_
 unfold dv at u
 simp only[Option.bind_eq_some_iff,Option.map_eq_some_iff] at u
 obtain⟨i,hi,U,u,C⟩:=u
 have t:U.cells=#[z]:=by
  rw[<- Array.toList_inj];exact C
 have hsz:=I.size
 have H:len<=16777216:=Nat.le_of_ble_eq_true hlen
 have k:=mX (fun i=>some (i*1,1)) len (fun i hi=>by simp) (fO f l) (List.replicate len z) (by simp) (fun p K=>by
  have:=List.all_eq_true.1 A p K
  simp only[Bool.and_eq_true] at this
  exact⟨by simpa[Nat.blt_eq] using this.1,this.2⟩)
 rw[F] at k
 refine cR (w':={ w with heap:=w.heap.push (aj vs e).obj }) (v:=.slice (some ⟨w.heap.size,0,none⟩) len len) ?_
  ⟨_,_,_,r.put hd _,⟨rfl,B.2⟩,?_,by rw[B.1];exact dz.push hex _ _,h w.heap.size (by rw[B.1];exact hsz)⟩
 ·rw[r.eval,mU];have O:=iA f l
  have y:(Instr.buildSlice T len (l.toArray.map fun(i,x)=>(i,ev f x))).run P w = .ok (.slice (some ⟨w.heap.size,0,none⟩) len len) { w with heap:=w.heap.push (.cells vs.toArray e) }:=by
   rw[O];simp only[Instr.buildSlice,Sem.run_bind,run_underlying (eR V),Result.andThen_ok,bP hs aa]
   have W:¬(len*1>2^24):=aa
   simp only[W,if_false]
   have g:(Array.map (fun x=>(if len=0 then #[] else #[z])[x%(if len=0 then #[] else #[z]).size]!) (Array.range (len*1)))=(List.replicate len z).toArray:=by
    apply Array.ext_getElem?
    intro j;by_cases q:len=0
    ·subst q;simp
    ·simp only[q,if_false]
     by_cases J:j<len
     ·simp[J,Nat.mod_one]
     ·simp[J]
   by_cases q:len=0
   ·subst q;simp only[if_true] at g
    simp only[Nat.zero_mul,if_true,Sem.run_bind,Sem.run_pure,Result.andThen_ok]
    simp only[Nat.zero_mul] at g
    rw[g,k];simp[newRow]
   ·have M:¬(len*1=0):=aa
    simp only[q,if_false] at g
    simp only[M,if_false,Sem.run_bind,zeroValue,typeInfo,run_program,hi,u,Result.andThen_ok,Sem.run_pure,t,g]
    rw[k];simp[newRow]
  simp only[execOp,Sem.run_bind,y,Result.andThen_ok,Sem.run_pure]
 ·rw[B.1];exact I.push hex _
theorem AY {x:Operand} {u:Array TypeId} {b o len cap e:Nat} {B:bk} {z:Value} {m':ao} (hx:ev f x = .slice (some ⟨b,o,none⟩) len cap) (U:u[0]? = some T) (O:bA.tk P T = .sl e) (hs:bA.sz P e=1) (q:dv P e=some [z]) (A:dJ z=true)
  (J:tK m b B ⟨B.n,cQ B.g o len (fun _=>z),B.T,B.fr⟩ m') (hf:B.fr=(0,0)) (ho:o+len<=B.n) (hex:h0.ex=false) (hd:aE n d=true)
  (h:RO P G qs c n h0 ops Q rest (aV f d (.tuple #[])) m') :
  RO P G qs c n h0 ops Q (⟨d,.call ⟨.builtin .clear,#[x],u⟩,tt,pos,aft,none⟩::rest) f m:=by
 refine ku rfl rfl hd fun hp w C y a r=>?_
 unfold dv at q
 simp only[Option.bind_eq_some_iff,Option.map_eq_some_iff] at q
 obtain⟨i,hi,V,q,H⟩:=q
 have l:V.cells=#[z]:=by rw[<- Array.toList_inj];exact H
 have hb:w.heap[b]? = some B.obj:=by rw[y.1];exact C.has _ (List.mem_append.2 (.inl J.mem))
 have p:At c w.heap w:=⟨rfl,y.2⟩
 have I:(Builtin.zeroCells #[z] len).toList=List.replicate len z:=by
  apply List.ext_getElem?
  intro j;by_cases K:j<len
  ·simp[Builtin.zeroCells,K,Nat.mod_one]
  ·simp[Builtin.zeroCells,K]
 obtain⟨w',W,F,t⟩:=dK (P:=P) (List.replicate len z) 0 (o:=o) hb hf (by simp;omega) (fun v Y=>by rw[List.eq_of_mem_replicate Y];exact A) p
 by_cases M:len=0
 ·subst M;refine cR (v:=.tuple #[]) (w':=w) ?_ ⟨_,_,w.heap,r.put hd _,p,?_,h⟩
  ·rw[r.eval];simp[execOp,resolve,invoke,builtin,Builtin.clear_,hx,U,run_underlying (eR O)]
  ·rw[y.1];refine C.turned hex J ?_
   rw[eY];rw[y.1] at hb;exact .refl hb
 ·refine cR (v:=.tuple #[]) (w':=w') ?_ ⟨_,_,w'.heap,r.put hd _,F,?_,h⟩
  ·rw[r.eval];obtain⟨k,rfl⟩:∃k,len=k+1:=⟨len-1,aa⟩
   simp only[execOp,resolve,Sem.run_bind,Sem.run_pure,Result.andThen_ok,invoke,builtin,Builtin.clear_]
   rw[show(#[x].map (ev f))=#[ev f x] by simp,hx]
   simp[U,run_underlying (eR O),zeroValue,typeInfo,hi,q,l,I,W]
  ·rw[y.1] at t;refine C.turned hex J (t.congr ?_)
   unfold bk.obj
   congr 1
   apply bk.cells_congr
   intro j K;simp only[List.length_replicate]
   change cQ B.g (o+0) len (ct (List.replicate len z)) j=cQ B.g o len (fun _=>z) j
   by_cases h1:o<=j/\j<o+len
   ·rw[bH _ _ _ _ _ aa aa,bH _ _ _ _ _ aa aa];simp[ct,show j-o<len from aa]
   ·rw[aP _ _ _ _ _ aa,aP _ _ _ _ _ aa]
def uP (P:Program) (t:TypeId) (name:String):Option FuncId :=
 (P.info? t).bind fun i=>(i.methods.find? (·.name==name)).bind fun m=>match m.path.toList,m.func with
  | [],some (fid,true)=>some fid
  | _,_=>none
theorem wB {t e:TypeId} {name:String} {fid:FuncId} (j:uP P t name=some fid) (ht:bA.tk P t = .ptr e) (w:World) (k:Nat) (v:Value) :
  (method (k+1) t v name).run P w = .ok (fid,v) w/\(nilAhead (k+1) t v name).run P w = .ok (some false) w:=by
 unfold uP at j
 simp only[Option.bind_eq_some_iff] at j
 obtain⟨i,hi,l,g,h⟩:=j
 split at h
 ·rename_i hp hf
  cases h
  constructor
  ·simp[method,typeInfo,hi,g,hp,hf,follow,receiverAt,run_underlying (qB ht),Place.get]
  ·simp[nilAhead,typeInfo,hi,g,hp,hf,followBlind]
 ·cases h
theorem r5 {t e:TypeId} {name:String} {fid:FuncId} {v:Value} (i:uP P t name=some fid) (ht:bA.tk P t = .ptr e) (hgo:bA.go P fid=true) (g:List Value) (w:World) :
  (callMethod (.iface t v) name g.toArray).run P w = .ok (.enter fid (v::g).toArray) w:=by
 have h:=(wB (v:=v) i ht w (P.types.size+Made.depth-1) ).1
 have j:P.types.size+Made.depth-1+1=P.types.size+Made.depth:=by
  have:0<Made.depth:=by decide
  omega
 rw[j] at h
 simp[callMethod,h,oK hgo]
omit ty in
theorem iN {x:Operand} {v:Value} {name:String} (hx:ev f x=v) (hd:aE n d=true) (h:RO P G qs c n h0 ops Q rest (aV f d (.func (.method name) #[v] #[])) m) :
  RO P G qs c n h0 ops Q (⟨d,.makeFunc (.method name) #[x] #[],tt,pos,aft,none⟩::rest) f m :=
 cY rfl rfl hd (fun w=>by simp[execOp,hx,Instr.makeFunc]) h
theorem oT {x:Operand} {name:String} {t e:TypeId} {v:Value} {fid:FuncId} (i:uP P t name=some fid) (hx:ev f x = .func (.method name) #[.iface t v] #[]) (ht:bA.tk P t = .ptr e) (hd:aE n d=true)
  (h:RO P G qs c n h0 ops Q rest (aV f d (.func (.method name) #[.iface t v] #[])) m) :
  RO P G qs c n h0 ops Q (⟨d,.nilCheck x,tt,pos,aft,none⟩::rest) f m:=by
 refine cY rfl rfl hd (fun w=>?_) h
 have g:=(wB (v:=v) i ht w (P.types.size+Made.depth-1) ).2
 have j:P.types.size+Made.depth-1+1=P.types.size+Made.depth:=by
  have:0<Made.depth:=by decide
  omega
 rw[j] at g
 simp[execOp,hx,g]
theorem mu {x:Operand} {h:String} {l:List Operand} {g:Array TypeId} {t e:TypeId} {fid:FuncId} {rv:Value} {us:List Value} {pre fm:ao} {R:Value->ao->Prop}
  (p:uP P t h=some fid) (ht:bA.tk P t = .ptr e) (hgo:bA.go P fid=true) (r:av P G fid (rv::us).toArray pre R)
  (q:∀v m',R v m'->RO P G qs c n h0 ops Q rest (aV f d v) (m'++fm))
  (hf:ev f x = .iface t rv:=by exact rfl) (hx:l.map (ev f)=us:=by exact rfl) (hd:aE n d=true:=by exact rfl)
  (hs:aR m (pre++fm):=by first|exact aR.refl _|(apply f_.eqv;repeat(first|exact .nil|exact .all|exact .allN|exact .pref|exact .suf|(apply f_.cons;(focus ((repeat(first|exact .here (by first|with_reducible rfl|exact aW rfl rfl rfl rfl|exact rfl)|apply kc.there));done)))|apply f_.skip)))
  (hex:h0.ex=false:=by with_reducible assumption) :
  RO P G qs c n h0 ops Q (⟨d,.call ⟨.invoke x h,l.toArray,g⟩,tt,pos,aft,none⟩::rest) f m:=by
 refine mr rfl rfl hd (fun w=>?_) r hs hex q
 have j:(#[(Value.iface t rv)]++us.toArray).extract 1 (#[(Value.iface t rv)]++us.toArray).size=us.toArray:=by
  apply Array.ext_getElem?;intro i;simp
 have k:(#[(Value.iface t rv)]++us.toArray)[0]? = some (.iface t rv):=by simp
 simp only[execOp,resolve,hf,ga hx,Sem.run_bind,Sem.run_pure,Result.andThen_ok,invoke,j,k]
 exact r5 p ht hgo us w
def E5 (P:Program) (A t:TypeId):Option Bool:=match P.underlying A with
 | some (.interface want)=>(P.info? t).map fun i=>(want.toList.filter fun x=>!i.methods.any fun m=>m.name==x.1&&m.sig==x.2).isEmpty
 | _=>none
omit ty in
theorem missing_aux (p:String->Bool) (g:String->String) (a:String) (l:List String):(Instr.least ((a::l).filter (not∘p)) <|> Instr.least (((a::l).filter p).map g)).isNone=false:=by
 by_cases h:p a=true
 ·rw[List.filter_cons_of_pos (p:=p) h];simp only[List.map_cons]
  cases Instr.least (List.filter (not∘p) (a::l))<;>rfl
 ·rw[List.filter_cons_of_pos (p:=not∘p) (by simpa using h)]
  rfl
omit ty in
theorem uQ (g:Array (String×TypeId)) (got:Array Method):(Instr.missingMethod g got).isNone=(g.toList.filter fun x=>!got.any fun m=>m.name==x.1&&m.sig==x.2).isEmpty:=by
 have hl:∀l:List String,(Instr.least l).isNone=l.isEmpty:=fun l=>by cases l<;>rfl
 unfold Instr.missingMethod
 simp only
 generalize hf:(g.toList.filter fun x=>!got.any fun m=>m.name==x.1&&m.sig==x.2)=l
 cases l with
 | nil=>rfl
 | cons x h =>
  simp only[List.map_cons,List.partition_eq_filter_filter,List.isEmpty_cons]
  exact missing_aux _ _ _ _
omit ty in
theorem CF {x:Operand} {X A t:TypeId} {v:Value} {b:Bool} (hx:ev f x = .iface t v) (ht:E5 P A t=some b) (k:(P.info? A).bind (·.zero)=some .nilIface) (hd:aE n d=true)
  (h:RO P G qs c n h0 ops Q rest (aV f d (.tuple #[if b then .iface t v else .nilIface,.bool b])) m) :
  RO P G qs c n h0 ops Q (⟨d,.typeAssert x X A true,tt,pos,aft,none⟩::rest) f m:=by
 refine cY rfl rfl hd (fun w=>?_) h
 unfold E5 at ht
 split at ht
 ·rename_i want hu
  simp only[Option.map_eq_some_iff,Option.bind_eq_some_iff] at ht k
  obtain⟨i,hi,hb⟩:=ht;rw[<- uQ] at hb;obtain⟨j,l,g⟩:=k;simp only[execOp,hx,Instr.typeAssert,Sem.run_bind,run_underlying hu,Result.andThen_ok,typeInfo,hi,run_program,Sem.run_pure]
  cases hmm:Instr.missingMethod want i.methods with
  | none =>
   rw[hmm] at hb;simp only[Option.isNone_none] at hb
   subst hb;simp
  | some s =>
   rw[hmm] at hb;simp only[Option.isNone_some] at hb
   subst hb;simp[zeroValue,typeInfo,l,g]
 ·cases ht
omit ty in
theorem AZ {x y:Operand} {a b:Bool} (hx:ev f x = .bool a) (g:ev f y = .bool b) (i:P.underlying T=some .bool) (hd:aE n d=true)
  (h:RO P G qs c n h0 ops Q rest (aV f d (.bool (a==b))) m):RO P G qs c n h0 ops Q (⟨d,.binOp .eql T x y T',tt,pos,aft,none⟩::rest) f m:=by
 refine dX (aZ _) rfl hd (fun _ p w l j=>⟨w,j,.inl ?_⟩) (fun h=>by cases h) h
 have:(Op.equal T (.bool a) (.bool b)).run P w = .ok (a==b) w:=eV fun k=>by simp[Op.equalIn,run_underlying i]
 simp[execOp,hx,g,eqGuard,binOp,this]
end
end Go.Eng
namespace Go.Eng
open Go
def wC (P:Program) [bA P] (f:Fr) (m:ao):List ResultVar->List Value->Prop
 | [],[]=>True
 | .tmp t::rs,v::vs=>f t=v/\wC P f m rs vs
 | .cell a T::rs,v::vs=>(∃b o s B,f a = .pointer (some ⟨b,o,none⟩)/\zj (bA.tk P T)=true/\bA.sz P T=s+1/\(b,B)∈m/\o+(s+1)<=B.n/\v = .agg (ej (s+1) fun i=>B.g (o+i)).toArray)/\wC P f m rs vs
 | _,_=>False
section
variable {P:Program} [ty:bA P] {G:ao} {c:World} {h0:dx} {R:Value->ao->Prop} {f:Fr} {m:ao}
theorem wD {fn:Func} {rs:List ResultVar} {vs:List Value} (g:fn.results=rs.toArray) {n:Nat} {a:Act} (r:nL n a f) {w:World} {h:bJ} (F:At c h w) (q:ed h0 G m h) (dE:wC P f m rs vs) :
  (results fn a.tmps).run P w = .ok (mq vs) w:=by
 have key:∀(rs:List ResultVar) (vs:List Value),wC P f m rs vs->(rs.mapM (fun|.tmp t=>pure (a.tmps.getD t undef)|.cell j t=>do loadVar t (<- asAddr (a.tmps.getD j undef))):Sem (List Value)).run P w = .ok vs w:=by
  intro rs
  induction rs with
  | nil=>intro vs i;cases vs with
   | nil=>simp
   | cons _ _=>exact i.elim
  | cons x rs p =>
   intro vs i
   cases vs with
   | nil=>cases x<;>exact i.elim
   | cons v vs =>
    cases x with
    | tmp t =>
     obtain⟨l,k⟩:=i;simp only[List.mapM_cons,Sem.run_bind,Sem.run_pure,Result.andThen_ok]
     rw[p vs k,r.slot t,l]
     rfl
    | cell j T =>
     obtain⟨⟨b,o,s,B,l,k,y,A,C,z⟩,u⟩:=i;have hb:w.heap[b]? = some B.obj:=by rw[F.1];exact q.has _ (List.mem_append.2 (.inl A))
     have hl:((do loadVar T (<- asAddr (a.tmps.getD j undef))):Sem Value).run P w = .ok v w:=by
      rw[r.slot j,l,z];simp[asAddr,loadVar,kv k,bP y aa,dY hb C]
     simp only[List.mapM_cons]
     rw[Sem.run_bind,hl];simp only[Result.andThen_ok]
     rw[Sem.run_bind,p vs u]
     rfl
 unfold results
 rw[g]
 simp only[Sem.run_bind,List.mapM_toArray,Sem.run_map]
 erw [key rs vs dE]
 simp only[Result.andThen_ok,Sem.run_pure]
 congr 1
 cases vs with
 | nil=>simp[mq]
 | cons v vs=>cases vs<;>simp[mq]
theorem cH {fn:Func} (rs:List ResultVar) (vs:List Value) {post junk:ao} (dE:wC P f m rs vs) (i:R (mq vs) post) (g:fn.results=rs.toArray:=by exact rfl) (hs:aR m (post++junk):=by first|exact aR.refl _|(apply f_.eqv;repeat(first|exact .nil|exact .all|exact .allN|exact .pref|exact .suf|(apply f_.cons;(focus ((repeat(first|exact .here (by first|with_reducible rfl|exact aW rfl rfl rfl rfl|exact rfl)|apply kc.there));done)))|apply f_.skip))) :
  Ends P G c fn h0 R .ret f m:=⟨_,post,junk,fun _ _ _ r j h=>wD g r j h dE,hs,i⟩
variable {qs:List FuncId} {n:Nat} {ops:Array Oper} {Q:Fr->ao->Prop} {rest:List Oper} {d:Option Tmp} {T T' tt:TypeId} {pos:String} {aft:Array Edge}
omit ty in
theorem rx {x:Operand} (hx:ev f x = .bool true) (hd:aE n d=true) (h:RO P G qs c n h0 ops Q rest (aV f d (.bool false)) m) :
  RO P G qs c n h0 ops Q (⟨d,.unOp .not T x,tt,pos,aft,none⟩::rest) f m:=lk hx hd h
omit ty in
theorem ry {x:Operand} (hx:ev f x = .bool false) (hd:aE n d=true) (h:RO P G qs c n h0 ops Q rest (aV f d (.bool true)) m) :
  RO P G qs c n h0 ops Q (⟨d,.unOp .not T x,tt,pos,aft,none⟩::rest) f m:=lk hx hd h
theorem mY {x:Operand} {v:Value} (hx:ev f x=v) (i:bA.tk P T = .ifc) (g:CB v=some true) (hd:aE n d=true)
  (h:RO P G qs c n h0 ops Q rest (aV f d (.bool false)) m):RO P G qs c n h0 ops Q (⟨d,.binOp .neq T x (.const .nilIface) T',tt,pos,aft,none⟩::rest) f m:=wt hx i g hd h
theorem mZ {x:Operand} {v:Value} (hx:ev f x=v) (i:bA.tk P T = .ifc) (g:CB v=some false) (hd:aE n d=true)
  (h:RO P G qs c n h0 ops Q rest (aV f d (.bool true)) m):RO P G qs c n h0 ops Q (⟨d,.binOp .neq T x (.const .nilIface) T',tt,pos,aft,none⟩::rest) f m:=wt hx i g hd h
omit ty in
theorem m6 {x y:Operand} {k:IntKind} {a b:Int} (hx:ev f x = .int k a) (i:ev f y = .int k b) (g:a=b) (hd:aE n d=true)
  (h:RO P G qs c n h0 ops Q rest (aV f d (.bool true)) m):RO P G qs c n h0 ops Q (⟨d,.binOp .eql T x y T',tt,pos,aft,none⟩::rest) f m :=
 kG hx i hd (by rw[show decide (a=b)=true from decide_eq_true g];exact h)
omit ty in
theorem m7 {x y:Operand} {k:IntKind} {a b:Int} (hx:ev f x = .int k a) (i:ev f y = .int k b) (g:a≠b) (hd:aE n d=true)
  (h:RO P G qs c n h0 ops Q rest (aV f d (.bool false)) m):RO P G qs c n h0 ops Q (⟨d,.binOp .eql T x y T',tt,pos,aft,none⟩::rest) f m :=
 kG hx i hd (by rw[show decide (a=b)=false from decide_eq_false g];exact h)
theorem lx {x y:Operand} {a b:Bool} (hx:ev f x = .bool a) (i:ev f y = .bool b) (j:bA.tk P T = .bool) (g:a=b) (hd:aE n d=true)
  (h:RO P G qs c n h0 ops Q rest (aV f d (.bool true)) m):RO P G qs c n h0 ops Q (⟨d,.binOp .eql T x y T',tt,pos,aft,none⟩::rest) f m :=
 AZ hx i (pK j) hd (by subst g;simpa using h)
theorem GS (l h:Nat) {x:Operand} {lo hi:Option Operand} {b o len cap e:Nat} (hx:ev f x = .slice (some ⟨b,o,none⟩) len cap) (j:bA.tk P T = .sl e) (hs:bA.sz P e=1)
  (hl:dG f lo 0=some (l:Int)) (g:dG f hi len=some (h:Int)) (q:l<=h) (k:h<=cap) (p:l<cap) (hd:aE n d=true)
  (i:RO P G qs c n h0 ops Q rest (aV f d (.slice (some ⟨b,o+l,none⟩) (h-l) (cap-l))) m) :
  RO P G qs c n h0 ops Q (⟨d,.slice T x lo hi none,tt,pos,aft,none⟩::rest) f m:=by
 refine iU (s:=0) hx j hs hl g aa aa aa hd ?_
 have:sOff o (l:Int).toNat (0+1) cap=o+l:=by unfold sOff;rw[ah (by simp;omega)];simp
 rw[this]
 simpa using i
theorem rz (h:Nat) {x:Operand} {hi:Option Operand} {b o len cap e s:Nat} (hx:ev f x = .slice (some ⟨b,o,none⟩) len cap) (j:bA.tk P T = .sl e) (hs:bA.sz P e=s+1)
  (i:dG f hi len=some (h:Int)) (k:h<=cap) (hd:aE n d=true)
  (g:RO P G qs c n h0 ops Q rest (aV f d (.slice (some ⟨b,o,none⟩) h cap)) m) :
  RO P G qs c n h0 ops Q (⟨d,.slice T x none hi none,tt,pos,aft,none⟩::rest) f m:=by
 refine iU (s:=s) (l:=0) (lo:=none) hx j hs rfl i aa aa aa hd ?_
 have:sOff o (0:Int).toNat (s+1) cap=o:=by unfold sOff;split<;>simp
 rw[this]
 simpa using g
theorem ym (l h:Nat) {x:Operand} {lo hi:Option Operand} {b o k e:Nat} (hx:ev f x = .pointer (some ⟨b,o,none⟩)) (j:bA.tk P T = .arr k e) (hs:bA.sz P e=1)
  (hl:dG f lo 0=some (l:Int)) (g:dG f hi k=some (h:Int)) (r:l<=h) (p:h<=k) (q:l<k) (hd:aE n d=true)
  (i:RO P G qs c n h0 ops Q rest (aV f d (.slice (some ⟨b,o+l,none⟩) (h-l) (k-l))) m) :
  RO P G qs c n h0 ops Q (⟨d,.slice T x lo hi none,tt,pos,aft,none⟩::rest) f m:=by
 refine qE (s:=0) hx j hs hl g aa aa aa hd ?_
 have:sOff o (l:Int).toNat (0+1) k=o+l:=by unfold sOff;rw[ah (by simp;omega)];simp
 rw[this]
 simpa using i
theorem hG (h:Nat) {x:Operand} {hi:Option Operand} {b o k e s:Nat} (hx:ev f x = .pointer (some ⟨b,o,none⟩)) (j:bA.tk P T = .arr k e) (hs:bA.sz P e=s+1)
  (i:dG f hi k=some (h:Int)) (p:h<=k) (hd:aE n d=true)
  (g:RO P G qs c n h0 ops Q rest (aV f d (.slice (some ⟨b,o,none⟩) h k)) m) :
  RO P G qs c n h0 ops Q (⟨d,.slice T x none hi none,tt,pos,aft,none⟩::rest) f m:=by
 refine qE (s:=s) (l:=0) (lo:=none) hx j hs rfl i aa aa aa hd ?_
 have:sOff o (0:Int).toNat (s+1) k=o:=by unfold sOff;split<;>simp
 rw[this]
 simpa using g
omit ty in
theorem oU {op:Op} {g:Nat×Bool} (i:gF ops f ⟨d,op,tt,pos,aft,some g⟩=true) (h:RO P G qs c n h0 ops Q (⟨d,op,tt,pos,aft,none⟩::rest) f m):RO P G qs c n h0 ops Q (⟨d,op,tt,pos,aft,some g⟩::rest) f m :=
 EY i h
omit ty in
theorem ly {op:Op} {g:Nat×Bool} (i:gF ops f ⟨d,op,tt,pos,aft,some g⟩=false) (hd:aE n d=true) (h:RO P G qs c n h0 ops Q rest (aV f d undef) m):RO P G qs c n h0 ops Q (⟨d,op,tt,pos,aft,some g⟩::rest) f m :=
 AU hd i h
end
end Go.Eng
namespace Go.Eng
open Go
def m8:Nat->Code->Code
 | 0,c=>c
 | k+1,.seq _ c=>m8 k c
 | _+1,c=>c
def A0:Option Code->Code
 | some (.seq _ (.scope (.seq _ B)))=>B
 | _=>.skip
def uR:Option Code->Code
 | some c=>c
 | none=>.skip
def fJ:IntKind->Nat
 | .i8=>7|.i16=>15|.i32=>31|.i64=>63
 | .u8=>8|.u16=>16|.u32=>32|.u64=>64
theorem uS (k:IntKind):fJ k<=k.bits:=by cases k<;>decide
theorem fG {k:IntKind} {a:Nat} (h:a<2^fJ k):k.wrap (a:Int)=a:=by
 cases k<;>simp only[fJ] at h<;>simp[IntKind.wrap,IntKind.bits,IntKind.signed]<;>omega
section
variable {P:Program} [ty:bA P] {G:ao} {qs:List FuncId} {c:World} {n:Nat} {h0:dx} {ops:Array Oper} {Q:Fr->ao->Prop} {rest:List Oper} {f:Fr} {m:ao}
variable {d:Option Tmp} {T T' tt:TypeId} {pos:String} {aft:Array Edge}
omit ty in
theorem hJ (a b:Nat) {x y:Operand} {k:IntKind} (hx:ev f x = .int k (a:Int)) (i:ev f y = .int k (b:Int)) (g:a<2^fJ k) (hb:b<2^fJ k) (hd:aE n d=true)
  (h:RO P G qs c n h0 ops Q rest (aV f d (.int k ((a&&&b:Nat):Int))) m):RO P G qs c n h0 ops Q (⟨d,.binOp .and T x y T',tt,pos,aft,none⟩::rest) f m:=by
 have j:2^fJ k<=2^k.bits:=Nat.pow_le_pow_right aa (uS k)
 refine dq hx i rfl hd ?_
 rw[BitVec.toNat_and,BitVec.ofInt_natCast,BitVec.ofInt_natCast,BitVec.toNat_ofNat,BitVec.toNat_ofNat,Nat.mod_eq_of_lt aa,Nat.mod_eq_of_lt aa,fG (Nat.lt_of_le_of_lt Nat.and_le_left g)]
 exact h
omit ty in
theorem nZ (a b:Nat) {x y:Operand} {k:IntKind} (hx:ev f x = .int k (a:Int)) (i:ev f y = .int k (b:Int)) (g:a<2^fJ k) (hb:b<2^fJ k) (hd:aE n d=true)
  (h:RO P G qs c n h0 ops Q rest (aV f d (.int k ((a|||b:Nat):Int))) m):RO P G qs c n h0 ops Q (⟨d,.binOp .or T x y T',tt,pos,aft,none⟩::rest) f m:=by
 have j:2^fJ k<=2^k.bits:=Nat.pow_le_pow_right aa (uS k)
 refine dq hx i rfl hd ?_
 rw[BitVec.toNat_or,BitVec.ofInt_natCast,BitVec.ofInt_natCast,BitVec.toNat_ofNat,BitVec.toNat_ofNat,Nat.mod_eq_of_lt aa,Nat.mod_eq_of_lt aa,fG (Nat.or_lt_two_pow g hb)]
 exact h
omit ty in
theorem m9 (a b:Nat) {x y:Operand} {k k':IntKind} (hx:ev f x = .int k (a:Int)) (i:ev f y = .int k' (b:Int)) (hb:b<=k.bits) (g:a*2^b<2^fJ k) (hd:aE n d=true)
  (h:RO P G qs c n h0 ops Q rest (aV f d (.int k ((a*2^b:Nat):Int))) m):RO P G qs c n h0 ops Q (⟨d,.binOp .shl T x y T',tt,pos,aft,none⟩::rest) f m:=by
 refine yg hx i aa hd ?_
 rw[Int.toNat_natCast,Nat.min_eq_left hb]
 have:(a:Int)*2^b=((a*2^b:Nat):Int):=by push_cast;rfl
 rw[this,fG g]
 exact h
omit ty in
theorem E6 (a b:Nat) {x y:Operand} {k k':IntKind} (hx:ev f x = .int k (a:Int)) (g:ev f y = .int k' (b:Int)) (hb:b<=k.bits) (hd:aE n d=true)
  (h:RO P G qs c n h0 ops Q rest (aV f d (.int k ((a/2^b:Nat):Int))) m):RO P G qs c n h0 ops Q (⟨d,.binOp .shr T x y T',tt,pos,aft,none⟩::rest) f m:=by
 refine CA hx g aa hd ?_
 rw[Int.toNat_natCast,Nat.min_eq_left hb,ww]
 have:(a:Int)/2^b=((a/2^b:Nat):Int):=by push_cast;rfl
 rw[this]
 exact h
omit ty in
theorem uT (a b:Nat) {x y:Operand} {k:IntKind} (hx:ev f x = .int k (a:Int)) (i:ev f y = .int k (b:Int)) (hb:b≠0) (g:a<2^fJ k) (hd:aE n d=true)
  (h:RO P G qs c n h0 ops Q rest (aV f d (.int k ((a/b:Nat):Int))) m):RO P G qs c n h0 ops Q (⟨d,.binOp .quo T x y T',tt,pos,aft,none⟩::rest) f m:=by
 refine Hi hx i aa hd ?_
 have:(a:Int).tdiv b=((a/b:Nat):Int):=by rw[Int.tdiv_eq_ediv_of_nonneg aa];push_cast;rfl
 rw[this,fG (Nat.lt_of_le_of_lt (Nat.div_le_self _ _) g)]
 exact h
omit ty in
theorem E7 (a b:Nat) {x y:Operand} {k:IntKind} (hx:ev f x = .int k (a:Int)) (i:ev f y = .int k (b:Int)) (g:a*b<2^fJ k) (hd:aE n d=true)
  (h:RO P G qs c n h0 ops Q rest (aV f d (.int k ((a*b:Nat):Int))) m):RO P G qs c n h0 ops Q (⟨d,.binOp .mul T x y T',tt,pos,aft,none⟩::rest) f m:=by
 have:(a:Int)*b=((a*b:Nat):Int):=by push_cast;rfl
 refine yf hx i ?_ hd ?_
 ·rw[this,fG g]
 ·rw[this];exact h
omit ty in
theorem E8 (a b:Nat) {x y:Operand} {k:IntKind} (hx:ev f x = .int k (a:Int)) (i:ev f y = .int k (b:Int)) (g:a+b<2^fJ k) (hd:aE n d=true)
  (h:RO P G qs c n h0 ops Q rest (aV f d (.int k ((a+b:Nat):Int))) m):RO P G qs c n h0 ops Q (⟨d,.binOp .add T x y T',tt,pos,aft,none⟩::rest) f m:=by
 have:(a:Int)+b=((a+b:Nat):Int):=by push_cast;rfl
 refine rS hx i ?_ hd ?_
 ·rw[this,fG g]
 ·rw[this];exact h
omit ty in
theorem E9 (a b:Nat) {x y:Operand} {k:IntKind} (hx:ev f x = .int k (a:Int)) (i:ev f y = .int k (b:Int)) (g:b<=a) (j:a<2^fJ k) (hd:aE n d=true)
  (h:RO P G qs c n h0 ops Q rest (aV f d (.int k ((a-b:Nat):Int))) m):RO P G qs c n h0 ops Q (⟨d,.binOp .sub T x y T',tt,pos,aft,none⟩::rest) f m:=by
 have:(a:Int)-b=((a-b:Nat):Int):=aa
 refine rT hx i ?_ hd ?_
 ·rw[this,fG aa]
 ·rw[this];exact h
omit ty in
theorem m_ (r:Bool) {x y:Operand} {k:IntKind} {a b:Int} (hx:ev f x = .int k a) (g:ev f y = .int k b) (i:(a≠b) ↔ r=true) (hd:aE n d=true)
  (h:RO P G qs c n h0 ops Q rest (aV f d (.bool r)) m):RO P G qs c n h0 ops Q (⟨d,.binOp .neq T x y T',tt,pos,aft,none⟩::rest) f m :=
 mh hx g hd (by
  have:decide (a≠b)=r:=by cases r<;>simp_all
  first|(rw[this];exact h)|(simp only[ne_eq] at this ⊢;rw[this];exact h))
omit ty in
theorem iV {k rest:Code} {Q j:Exit->Fr->ao->Prop} (g:List (Nat×Value)) (mem:ao) (q:J P G c n h0 k (fE (fun i m'=>bS i g/\aR m' mem) Q) f m)
  (p:∀i,J P G c n h0 rest j (lh i g) mem):J P G c n h0 k (fE (fun f m=>J P G c n h0 rest j f m) Q) f m:=by
 refine pJ q ?_
 intro e i m' h
 cases e<;>first|exact h|skip
 obtain⟨hs,l⟩:=h
 have:=p i
 rw[jZ hs] at this
 exact bZ l this
omit ty in
theorem Hk {k rest:Code} {Q j:Exit->Fr->ao->Prop} (p:Prop) (g:List (Nat×Value)) (mem:ao) (t:J P G c n h0 k (fE (fun i m'=>p/\bS i g/\aR m' mem) Q) f m)
  (r:p->∀i,J P G c n h0 rest j (lh i g) mem):J P G c n h0 k (fE (fun f m=>J P G c n h0 rest j f m) Q) f m:=by
 refine pJ t ?_
 intro e i m' h
 cases e<;>first|exact h|skip
 obtain⟨l,hs,q⟩:=h
 have:=r l i
 rw[jZ hs] at this
 exact bZ q this
omit ty in
theorem CG {σ:Type} {j rest:Code} {Q k:Exit->Fr->ao->Prop} (g:σ->List (Nat×Value)) (mem:σ->ao) (inv:σ->Prop) (q:J P G c n h0 j (fE (fun i m'=>∃s,inv s/\bS i (g s)/\aR m' (mem s)) Q) f m)
  (l:∀s i,inv s->J P G c n h0 rest k (lh i (g s)) (mem s)):J P G c n h0 j (fE (fun f m=>J P G c n h0 rest k f m) Q) f m:=by
 refine pJ q ?_
 intro e i m' h
 cases e<;>first|exact h|skip
 obtain⟨s,hi,hs,p⟩:=h
 have:=l s i hi
 rw[jZ hs] at this
 exact bZ p this
omit ty in
theorem ez {i:Code} {h:Exit->Fr->ao->Prop} (g:List (Nat×Value)) (mem:ao) (hs:bS f g) (j:aR m mem)
  (l:∀k,J P G c n h0 i h (lh k g) mem):J P G c n h0 i h f m:=by
 have:=l f
 rw[jZ hs] at this
 exact bZ j this
end
end Go.Eng
