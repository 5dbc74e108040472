/- Texts 02. -/
import Derived.WalkKit
import Derived.Test.YtogmacnlpclgkaaGreatDoorX01
set_option linter.all false
namespace Go.Eng
open Go
abbrev Fr:=Nat->Value
def ev (f:Fr):Operand->Value
 | .tmp t=>f t
 | .const v=>v
 | .global g=>.pointer (some ⟨g,0,none⟩)
 | .func k=>.func (.func k) #[] #[]
def gK (f:Fr) (d:Nat) (v:Value):Fr:=fun i=>bif Nat.beq i d then v else f i
def aV (f:Fr):Option Nat->Value->Fr
 | some d,v=>gK f d v
 | none,_=>f
def aE (n:Nat):Option Nat->Bool
 | some d=>Nat.blt d n
 | none=>true
structure nL (n:Nat) (a:Act) (f:Fr):Prop where
 size:a.tmps.size=n
 slot:∀i,a.tmps.getD i undef=f i
 defers:a.defers=[]
theorem cG (f:Fr) (d:Nat) (v:Value):gK f d v d=v:=by simp[gK]
theorem aT (f:Fr) (d i:Nat) (v:Value) (h:i≠d):gK f d v i=f i:=by
 have:Nat.beq i d=false:=by cases hb:Nat.beq i d with|false=>rfl|true=>exact absurd (Nat.eq_of_beq_eq_true hb) h
 simp[gK,this]
theorem rP (f:Fr) (d:Nat):gK f d (f d)=f:=by
 funext i
 by_cases h:i=d
 ·subst h;exact cG _ _ _
 ·exact aT _ _ _ _ h
theorem nL.eval {n:Nat} {a:Act} {f:Fr} (r:nL n a f):a.eval=ev f:=by
 funext x
 cases x with
 | tmp t=>exact r.slot t
 | _=>rfl
theorem nL.put {n:Nat} {a:Act} {f:Fr} (r:nL n a f) {d:Option Nat} (hd:aE n d=true) (v:Value):nL n (a.put d v) (aV f d v):=by
 cases d with
 | none=>exact r
 | some d =>
  have g:d<a.tmps.size:=by rw[r.size];simpa[aE] using hd
  refine⟨by simp[Act.put,r.size],fun i=>?_,r.defers⟩
  by_cases h:i=d
  ·subst h;rw[aV,cG];simp[Act.put,g]
  ·rw[aV,aT _ _ _ _ h,<- r.slot i];simp[Act.put,Array.getElem?_setIfInBounds_ne (Ne.symm h)]
def rQ (ops:Array Oper) (f:Fr) (j:Nat):Option Bool :=
 match(ops[j]?).bind (·.dst) with
 | some d=>(match f d with|.bool b=>some b|_=>none)
 | none=>none
def gF (ops:Array Oper) (f:Fr) (o:Oper):Bool:=Region.wanted o (rQ ops f)
theorem nL.yielded {n:Nat} {a:Act} {f:Fr} (r:nL n a f) (ops:Array Oper):yielded ops a.tmps=rQ ops f:=by
 funext j
 unfold Go.yielded rQ
 cases (ops[j]?).bind (·.dst) with
 | none=>rfl
 | some d =>
  have:=r.slot d
  simp only[Option.bind_some]
  rcases Nat.lt_or_ge d a.tmps.size with h|h
  ·simp[h] at this ⊢;rw[this];cases f d<;>rfl
  ·simp[Array.getElem?_eq_none h] at this ⊢;rw[<- this];rfl
structure bk where
 n:Nat
 g:Nat->Value
 T:TypeId
 fr:Nat×Nat:=(0,0)
def bk.cells (B:bk):Array Value:=Array.ofFn fun i:Fin B.n=>B.g i
def bk.obj (B:bk):Obj:=.cells B.cells B.T B.fr
def bk.st (B:bk) (o:Nat) (v:Value):bk:=⟨B.n,gK B.g o v,B.T,B.fr⟩
abbrev ao:=List (Nat×bk)
theorem bk.get (B:bk) (i:Nat) (h:i<B.n):B.cells[i]? = some (B.g i):=by
 simp[bk.cells,h]
theorem bk.size (B:bk):B.cells.size=B.n:=by simp[bk.cells]
theorem bk.cells_congr {n:Nat} {g k:Nat->Value} {T T':TypeId} {fr j:Nat×Nat} (h:∀i,i<n->g i=k i):(bk.mk n g T fr).cells=(bk.mk n k T' j).cells:=by
 unfold bk.cells
 congr 1
 funext i
 exact h i i.2
structure dx where
 h:bJ
 K:List Nat
 ex:Bool
structure ed (h0:dx) (G m:ao) (h:bJ):Prop where
 size:h0.h.size<=h.size
 has:∀p∈m++G,h[p.1]? = some p.2.obj
 nodup:((m++G).map (·.1)).Nodup
 known:∀p∈m,p.1∈h0.K\/h0.h.size<=p.1
 old:∀b,b<h0.h.size->b ∉ h0.K->h[b]? = h0.h[b]?
 ex:h0.ex=true->h=h0.h
theorem ed.lt {h0:dx} {G m:ao} {h:bJ} (o:ed h0 G m h) {p:Nat×bk} (g:p∈m++G):p.1<h.size:=by
 have:=o.has p g
 exact(Array.getElem?_eq_some_iff.1 this).1
inductive ye:ao->Nat->bk->Prop
 | here {b:Nat} {B:bk} {m:ao}:ye ((b,B)::m) b B
 | there {b:Nat} {B:bk} {x:Nat×bk} {m:ao}:ye m b B->ye (x::m) b B
theorem ye.mem {m:ao} {b:Nat} {B:bk} (h:ye m b B):(b,B)∈m:=by
 induction h with
 | here=>exact List.mem_cons_self
 | there _ g=>exact List.mem_cons_of_mem _ g
inductive AR:ao->Nat->bk->ao->Prop
 | here {b:Nat} {B:bk} {m:ao}:AR ((b,B)::m) b B m
 | there {b:Nat} {B:bk} {x:Nat×bk} {m m':ao}:AR m b B m'->AR (x::m) b B (x::m')
theorem AR.perm {m m':ao} {b:Nat} {B:bk} (h:AR m b B m'):m.Perm ((b,B)::m'):=by
 induction h with
 | here=>exact List.Perm.refl _
 | there _ g=>exact(List.Perm.cons _ g).trans (List.Perm.swap _ _ _)
inductive tK:ao->Nat->bk->bk->ao->Prop
 | here {b:Nat} {B B':bk} {m:ao}:tK ((b,B)::m) b B B' ((b,B')::m)
 | there {b:Nat} {B B':bk} {x:Nat×bk} {m m':ao}:tK m b B B' m'->tK (x::m) b B B' (x::m')
theorem tK.keys {m m':ao} {b:Nat} {B B':bk} (h:tK m b B B' m'):m'.map (·.1)=m.map (·.1):=by
 induction h with
 | here=>rfl
 | there _ g=>simp[g]
theorem tK.mem {m m':ao} {b:Nat} {B B':bk} (h:tK m b B B' m'):(b,B)∈m:=by
 induction h with
 | here=>exact List.mem_cons_self
 | there _ g=>exact List.mem_cons_of_mem _ g
inductive I0:ao->ao->ao->Prop
 | nil {m:ao}:I0 m [] m
 | cons {m m' pre fm:ao} {b:Nat} {B:bk}:AR m b B m'->I0 m' pre fm->I0 m ((b,B)::pre) fm
theorem I0.perm {m pre fm:ao} (h:I0 m pre fm):m.Perm (pre++fm):=by
 induction h with
 | nil=>exact List.Perm.refl _
 | cons t _ g=>exact t.perm.trans (List.Perm.cons _ g)
theorem ed.perm {h0:dx} {G m m':ao} {h:bJ} (o:ed h0 G m h) (p:m.Perm m'):ed h0 G m' h where
 size:=o.size
 has:=fun q g=>o.has q ((List.Perm.append_right G p).mem_iff.2 g)
 nodup:=(((List.Perm.append_right G p).map _).nodup_iff).1 o.nodup
 known:=fun q g=>o.known q (p.mem_iff.2 g)
 old:=o.old
 ex:=o.ex
def aR (m m':ao):Prop:=(m.map fun p=>(p.1,p.2.obj)).Perm (m'.map fun p=>(p.1,p.2.obj))
theorem aR.refl (m:ao):aR m m:=List.Perm.refl _
theorem aR.symm {m m':ao} (h:aR m m'):aR m' m:=List.Perm.symm h
theorem aR.trans {m m' m'':ao} (h:aR m m') (g:aR m' m''):aR m m'':=List.Perm.trans h g
theorem aR.of_perm {m m':ao} (h:m.Perm m'):aR m m':=h.map _
theorem aR.nil:aR [] []:=List.Perm.refl _
theorem aR.cons {b:Nat} {B B':bk} {m m':ao} (hB:B.obj=B'.obj) (h:aR m m'):aR ((b,B)::m) ((b,B')::m'):=by
 unfold aR at *
 simp only[List.map_cons,hB]
 exact List.Perm.cons _ h
theorem aR.skip {p:Nat×bk} {m m':ao} (h:aR m m'):aR (p::m) (p::m'):=aR.cons rfl h
theorem aR.put {b n:Nat} {g j:Nat->Value} {T:TypeId} {fr:Nat×Nat} {m m':ao} (hg:∀i,i<n->g i=j i) (h:aR m m'):aR ((b,⟨n,g,T,fr⟩)::m) ((b,⟨n,j,T,fr⟩)::m') :=
 aR.cons (by unfold bk.obj;rw[bk.cells_congr hg]) h
theorem aR.append {m m' l g:ao} (h:aR m m') (i:aR l g):aR (m++l) (m'++g):=by
 unfold aR at *;simp only[List.map_append];exact h.append i
theorem aR.append_right {m m':ao} (l:ao) (h:aR m m'):aR (m++l) (m'++l):=h.append (.refl l)
theorem ed.eqv {h0:dx} {G m m':ao} {h:bJ} (o:ed h0 G m h) (e:aR m m'):ed h0 G m' h where
 size:=o.size
 has:=by
  intro q g;rcases List.mem_append.1 g with g|g
  ·have:(q.1,q.2.obj)∈m.map fun p=>(p.1,p.2.obj):=e.mem_iff.2 (List.mem_map.2 ⟨q,g,rfl⟩)
   obtain⟨r,j,i⟩:=List.mem_map.1 this;simp only[Prod.mk.injEq] at i
   rw[<- i.1,<- i.2];exact o.has r (List.mem_append.2 (.inl j))
  ·exact o.has q (List.mem_append.2 (.inr g))
 nodup:=by
  have k:(m.map (·.1)).Perm (m'.map (·.1)):=by
   have:=e.map (fun p:Nat×Obj=>p.1)
   simpa[List.map_map,Function.comp_def] using this
  have:=o.nodup
  simp only[List.map_append] at this ⊢
  exact((k.append_right _).nodup_iff).1 this
 known:=by
  intro q g;have:(q.1,q.2.obj)∈m.map fun p=>(p.1,p.2.obj):=e.mem_iff.2 (List.mem_map.2 ⟨q,g,rfl⟩)
  obtain⟨r,j,i⟩:=List.mem_map.1 this;simp only[Prod.mk.injEq] at i
  rw[<- i.1];exact o.known r j
 old:=o.old
 ex:=o.ex
theorem ed.drop {h0:dx} {G post junk:ao} {h:bJ} (o:ed h0 G (post++junk) h):ed h0 G post h where
 size:=o.size
 has:=fun q g=>o.has q (by simp only[List.mem_append] at g ⊢;exact g.imp .inl id)
 nodup:=by
  refine o.nodup.sublist (List.Sublist.map _ ?_)
  rw[List.append_assoc];exact List.Sublist.append (List.Sublist.refl _) (List.sublist_append_right _ _)
 known:=fun q g=>o.known q (List.mem_append.2 (.inl g))
 old:=o.old
 ex:=o.ex
def ao.keys (m:ao):List Nat:=m.map (·.1)
theorem ed.startSub {h0:dx} {G pre fm:ao} {h:bJ} (o:ed h0 G (pre++fm) h):ed ⟨h,pre.keys,false⟩ G pre h :=
 ⟨aZ _,o.drop.has,o.drop.nodup,fun p g=>.inl (List.mem_map.2 ⟨p,g,rfl⟩),fun _ _ _=>rfl,fun h=>by cases h⟩
def dz (h0:dx) (G:ao) (h g:bJ):Prop:=∀m,ed h0 G m h->ed h0 G m g
theorem dz.refl {h0:dx} {G:ao} (h:bJ):dz h0 G h h:=fun _ o=>o
theorem dz.trans {h0:dx} {G:ao} (h g h'':bJ) (a:dz h0 G h g) (b:dz h0 G g h''):dz h0 G h h'':=fun m o=>b m (a m o)
section
variable (P:Program) (G:ao) (qs:List FuncId) (c:World) (n:Nat) (h0:dx) (ops:Array Oper)
def Cu (h:bJ) (w:World) (s:Sem Next) (v:Value):Prop:=∃w',At c h w' /\
 (s.run P w = .ok (.value v) w'\/∃f args,s.run P w = .ok (.enter f args) w'/\Calls P f args w' (fun e g=>e = .returned v/\At c h g))
def RO (Q:Fr->ao->Prop):List Oper->Fr->ao->Prop
 | [],f,m=>Q f m
 | o::rest,f,m =>
  aE n o.dst=true /\
  ((gF ops f o=true /\
   (if gE qs o.op=0 then ∃v,(∀w,(execOp (ev f) o).run P w = .ok (.value v) w)/\RO Q rest (aV f o.dst v) m
    else if gE qs o.op=1 then ∃v,(∀h w,ed h0 G m h->At c h w->Cu P c h w (execOp (ev f) o) v)/\RO Q rest (aV f o.dst v) m
    else ∀h w,ed h0 G m h->At c h w->∀a,nL n a f ->
    o.wp P a w (fun a' w'=>∃i m' g,nL n a' i/\At c g w'/\ed h0 G m' g/\(gE qs o.op=3->dz h0 G h g)/\RO Q rest i m') jf))
   \/ (gF ops f o=false/\RO Q rest (aV f o.dst undef) m))
def QN (Q:Fr->ao->Prop) (a:Act) (h:bJ):Prop:=∃f m,nL n a f/\ed h0 G m h/\Q f m
variable {P G qs c n h0 ops}
theorem RO.sound {Q:Fr->ao->Prop}:∀(k:List Nat) (l:List Oper),k.map (ops[·]?)=l.map some->∀(f:Fr) (m:ao) (a:Act) (h:bJ),
  nL n a f->ed h0 G m h->RO P G qs c n h0 ops Q l f m->qy P ops c qs (dz h0 G) (QN G n h0 Q) k a h
 | [],[],_,f,m,a,h,r,o,j=>⟨f,m,r,o,j⟩
 | [],_::_,hl,_,_,_,_,_,_,_=>by simp at hl
 | _::_,[],hl,_,_,_,_,_,_,_=>by simp at hl
 | i::k,op::l,hl,f,m,a,h,r,o,j=>by
  simp only[List.map_cons,List.cons.injEq] at hl
  obtain⟨hi,hl⟩:=hl;have q:=RO.sound (Q:=Q) k l hl
  obtain⟨hd,j⟩:=j;have g:Region.wanted op (yielded ops a.tmps)=gF ops f op:=by rw[r.yielded];rfl
  refine⟨op,hi,?_⟩
  rcases j with⟨t,j⟩|⟨t,j⟩
  ·split
   ·rename_i h0'
    rw[ai h0'] at j;obtain⟨v,A,u⟩:=j;exact⟨v,.inl ⟨g.trans t,by rw[r.eval];exact A⟩,q _ _ _ _ (r.put hd v) o u⟩
   ·rename_i h0'
    rw[ah h0'] at j;split
    ·rename_i h1
     rw[ai h1] at j;obtain⟨v,A,u⟩:=j;exact⟨v,fun z hx=>.inl ⟨g.trans t,fun w y=>by rw[r.eval];exact A z w (hx m o) y⟩,q _ _ _ _ (r.put hd v) o u⟩
    ·rename_i h1
     rw[ah h1] at j;intro w y;unfold wpOp;simp only[hi,g,t,if_true]
     exact .inl (Oper.wp_mono (fun a' w' ⟨f',m',z,r',hc',o',hx,u⟩=>⟨z,hc',hx,q _ _ _ _ r' o' u⟩) (j h w o y a r))
  ·have p:Region.wanted op (yielded ops a.tmps)=false:=g.trans t
   split
   ·exact⟨undef,.inr ⟨p,rfl⟩,q _ _ _ _ (r.put hd undef) o j⟩
   ·split
    ·exact⟨undef,fun _ _=>.inr ⟨p,rfl⟩,q _ _ _ _ (r.put hd undef) o j⟩
    ·intro w y;unfold wpOp;simp only[hi,p,Bool.false_eq_true,if_false]
     exact⟨h,y,fun _=>dz.refl h,q _ _ _ _ (r.put hd undef) o j⟩
variable (P G c n h0)
def Cv (Q:Exit->Fr->ao->Prop):Exit->Act->World->Prop:=fun e a w=>∃f m h,nL n a f/\At c h w/\ed h0 G m h/\Q e f m
def J (g:Code) (Q:Exit->Fr->ao->Prop) (f:Fr) (m:ao):Prop:=∀a w h,nL n a f->At c h w->ed h0 G m h->g.wp P (Cv G c n h0 Q) a w
variable {P G c n h0}
def fE (K:Fr->ao->Prop) (Q:Exit->Fr->ao->Prop):Exit->Fr->ao->Prop
 | .normal,f,m=>K f m
 | e,f,m=>Q e f m
def rR (id:Nat) (Q:Exit->Fr->ao->Prop):Exit->Fr->ao->Prop
 | .exit id',f,m=>if id'=id then Q .normal f m else Q (.exit id') f m
 | e,f,m=>Q e f m
variable {Q:Exit->Fr->ao->Prop} {f:Fr} {m:ao}
theorem pJ {i:Code} {g:Exit->Fr->ao->Prop} (h:J P G c n h0 i Q f m) (k:∀e f m,Q e f m->g e f m):J P G c n h0 i g f m :=
 fun a w j r l o=>wp_mono (h a w j r l o) fun _ _ _ ⟨f',m',h',r',hc',o',q⟩=>⟨f',m',h',r',hc',o',k _ _ _ q⟩
theorem fW (h:Q .normal f m):J P G c n h0 .skip Q f m:=fun _ _ g r i o=>wp_skip ⟨f,m,g,r,i,o,h⟩
theorem uL {l:Nat} (h:Q .normal f m):J P G c n h0 (.label l) Q f m:=fun _ _ g r i o=>wp_label ⟨f,m,g,r,i,o,h⟩
theorem af (h:Q .ret f m):J P G c n h0 .ret Q f m:=fun _ _ g r i o=>wp_ret ⟨f,m,g,r,i,o,h⟩
theorem Cw {id:Nat} (h:Q (.exit id) f m):J P G c n h0 (.exit id) Q f m:=fun _ _ g r i o=>wp_exit ⟨f,m,g,r,i,o,h⟩
theorem Hf {l:Nat} (h:Q (.goto l) f m):J P G c n h0 (.goto l) Q f m:=fun _ _ g r i o=>wp_goto ⟨f,m,g,r,i,o,h⟩
theorem dk {x y:Code} (h:J P G c n h0 x (fE (fun f m=>J P G c n h0 y Q f m) Q) f m):J P G c n h0 (.seq x y) Q f m :=
 fun a w g r i o=>wp_seq (wp_mono (h a w g r i o) fun e a' w' ⟨f',m',h',r',hc',o',q⟩=>by
  cases e
  case normal=>exact q a' w' h' r' hc' o'
  all_goals exact⟨f',m',h',r',hc',o',q⟩)
theorem uM {id:Nat} {x:Code} (h:J P G c n h0 x (rR id Q) f m):J P G c n h0 (.block id x) Q f m :=
 fun a w g r i o=>wp_block (wp_mono (h a w g r i o) fun e a' w' ⟨f',m',h',r',hc',o',q⟩=>by
  cases e
  case exit id' =>
   simp only[Exit.inBlock,rR] at q ⊢
   split
   ·rename_i he;rw[ai he] at q;exact⟨f',m',h',r',hc',o',q⟩
   ·rename_i he;rw[ah he] at q;exact⟨f',m',h',r',hc',o',q⟩
  all_goals exact⟨f',m',h',r',hc',o',q⟩)
theorem ei {x:Operand} {y z:Code} {b:Bool} (hb:ev f x = .bool b) (j:b=true->J P G c n h0 y Q f m) (i:b=false->J P G c n h0 z Q f m) :
  J P G c n h0 (.cond x y z) Q f m:=by
 intro a w g r h o
 refine wp_cond (t:=b) (by rw[r.eval];exact hb) ?_
 cases b
 ·exact i rfl a w g r h o
 ·exact j rfl a w g r h o
theorem ac {x:Operand} {y z:Code} {p:Prop} [Decidable p] (hb:ev f x = .bool (decide p)) (i:p->J P G c n h0 y Q f m) (g:¬p->J P G c n h0 z Q f m) :
  J P G c n h0 (.cond x y z) Q f m :=
 ei hb (fun h=>i (of_decide_eq_true h)) (fun h=>g (of_decide_eq_false h))
theorem ld {x:Operand} {y z:Code} (hb:ev f x = .bool true) (g:J P G c n h0 y Q f m):J P G c n h0 (.cond x y z) Q f m :=
 ei hb (fun _=>g) (fun h=>by cases h)
theorem oI {x:Operand} {y z:Code} (hb:ev f x = .bool false) (g:J P G c n h0 z Q f m):J P G c n h0 (.cond x y z) Q f m :=
 ei hb (fun h=>by cases h) (fun _=>g)
theorem bZ {g:Code} {m':ao} (e:aR m m') (h:J P G c n h0 g Q f m'):J P G c n h0 g Q f m:=fun a w i r j o=>h a w i r j (o.eqv e)
theorem Hg {body:Code} (I:Nat->Fr->ao->Prop) {k0:Nat} (H:I k0 f m)
  (round:∀k f m,I k f m->J P G c n h0 body (fE (fun i m'=>∃k',k'<k/\I k' i m') Q) f m):J P G c n h0 (.loop body) Q f m:=by
 intro a w y r M o b F cs
 have key:∀k,∀f m a w y,nL n a f->At c y w->ed h0 G m y->I k f m ->
   ∃e a' w',Cv G c n h0 Q e a' w'/\Arrives P (lone (b.at a (.code body :: .inLoop body::F)) cs w) b F cs e a' w':=by
  intro k
  induction k using Nat.strongRecOn with
  | _ k W =>
   intro f m a w y r M o H;obtain⟨e,A,t,⟨i,m',u,p,h,z,q⟩,g⟩:=round k f m H a w y r M o b (.inLoop body::F) cs
   cases e with
   | normal =>
    obtain⟨k',C,K⟩:=q;obtain⟨O,V,Y,B,j⟩:=W k' C i m' A t u p h z K;exact⟨O,V,Y,B,.of_steps (Steps.trans g (.one step_inLoop)) j⟩
   | exit id=>exact⟨_,A,t,⟨i,m',u,p,h,z,q⟩,.pass (x:=.inLoop body) rfl (fun _ _=>.inl (by simp)) g⟩
   | goto l=>exact⟨_,A,t,⟨i,m',u,p,h,z,q⟩,.pass (x:=.inLoop body) rfl (fun _ _=>.inl (by simp)) g⟩
   | ret=>exact⟨_,A,t,⟨i,m',u,p,h,z,q⟩,.pass (x:=.inLoop body) rfl (fun _ _=>.inl (by simp)) g⟩
   | panic ch=>exact⟨_,A,t,⟨i,m',u,p,h,z,q⟩,.pass (x:=.inLoop body) rfl (fun _ _=>.inl (by simp)) g⟩
   | outgrown=>exact⟨_,A,t,⟨i,m',u,p,h,z,q⟩,.pass (x:=.inLoop body) rfl (fun _ _=>.inl (by simp)) g⟩
 obtain⟨e,a',w',U,g⟩:=key k0 f m a w y r M o H
 exact⟨e,a',w',U,.of_steps (.one step_loop) g⟩
def bS (f:Fr):List (Nat×Value)->Prop
 | []=>True
 | (d,v)::l=>f d=v/\bS f l
def lh (f:Fr):List (Nat×Value)->Fr
 | []=>f
 | (d,v)::l=>gK (lh f l) d v
theorem jZ {f:Fr}:∀{l:List (Nat×Value)},bS f l->lh f l=f
 | [],_=>rfl
 | (d,v)::l,h=>by
  obtain⟨g,i⟩:=h;rw[lh,jZ i,<- g,rP]
theorem mP {σ:Type} {body:Code} (g:σ->List (Nat×Value)) (mem:σ->ao) (inv:σ->Prop) (meas:σ->Nat) (j:σ) (hf:bS f (g j)) (p:aR m (mem j)) (hi:inv j)
  (round:∀s f,inv s->J P G c n h0 body (fE (fun q m'=>∃i,meas i<meas s/\inv i/\bS q (g i)/\aR m' (mem i)) Q) (lh f (g s)) (mem s)):J P G c n h0 (.loop body) Q f m:=by
 refine Hg (fun k f m=>∃s,k=meas s/\inv s/\bS f (g s)/\aR m (mem s)) (k0:=meas j) ⟨j,rfl,hi,hf,p⟩ ?_
 rintro k f m ⟨s,rfl,hi,hf,p⟩
 have l:=round s f hi
 rw[jZ hf] at l
 refine bZ p (pJ l ?_)
 intro e q m' h
 cases e
 case normal =>
  obtain⟨i,l,r,t,u⟩:=h;exact⟨meas i,l,i,rfl,r,t,u⟩
 all_goals exact h
theorem oJ {id:Nat} {l:List Oper} {draw:Bool} (k:P.follows .mixedOrders=true)
  (dE:(!draw||pI l qs (List.range l.length))=true) (h:RO P G qs c n h0 l.toArray (fun f m=>Q .normal f m) l f m) :
  J P G c n h0 (.region id l.toArray draw) Q f m:=by
 intro a w j r g o
 have hs:=RO.sound (Q:=fun f m=>Q .normal f m) (List.range l.length) l (by
  apply List.ext_getElem?
  intro i;rcases Nat.lt_or_ge i l.length with hi|hi
  ·simp[hi]
  ·simp[hi]) f m a j r o h
 cases draw with
 | false =>
  refine v8 (qs:=qs) (dz.refl (h0:=h0) (G:=G)) (QN:=QN G n h0 fun f m=>Q .normal f m) (fun a' h' w' hc' ⟨f',m',r',o',q⟩=>⟨f',m',h',r',hc',o',q⟩) g ?_
  rw[List.size_toArray];exact hs
 | true=>exact qA (dz.refl (h0:=h0) (G:=G)) dz.trans (QN:=QN G n h0 fun f m=>Q .normal f m) k (by simpa using dE) (fun a' h' w' hc' ⟨f',m',r',o',q⟩=>⟨f',m',h',r',hc',o',q⟩) g hs
theorem tL {id:Nat} {l:List Oper} (g:List Nat) {i:List Oper} (k:P.follows .mixedOrders=true)
  (dE:pI l qs g=true) (hl:g.map (l.toArray[·]?)=i.map some) (h:RO P G qs c n h0 l.toArray (fun f m=>Q .normal f m) i f m) :
  J P G c n h0 (.region id l.toArray true) Q f m:=by
 intro a w j r p o
 have hs:=RO.sound (Q:=fun f m=>Q .normal f m) g i hl f m a j r o h
 exact qA (dz.refl (h0:=h0) (G:=G)) dz.trans (QN:=QN G n h0 fun f m=>Q .normal f m) k dE (fun a' h' w' hc' ⟨f',m',r',o',q⟩=>⟨f',m',h',r',hc',o',q⟩) p hs
variable (P G)
def av (fn:FuncId) (args:Array Value) (m:ao) (R:Value->ao->Prop):Prop :=
 ∀c h w,At c h w->ed ⟨h,m.keys,false⟩ G m h->Calls P fn args w (fun e w'=>∃v m' g,e = .returned v/\At c g w'/\ed ⟨h,m.keys,false⟩ G m' g/\R v m')
def aO (fn:FuncId) (args:Array Value) (m:ao) (v:Value):Prop :=
 ∀c h w,At c h w->(∀p∈m++G,h[p.1]? = some p.2.obj)->((m++G).map (·.1)).Nodup->Calls P fn args w (fun e w'=>e = .returned v/\At c h w')
variable {P G}
theorem av.mono {fn:FuncId} {args:Array Value} {R R':Value->ao->Prop} (t:av P G fn args m R) (h:∀v m',R v m'->R' v m'):av P G fn args m R' :=
 fun c g w i o=>(t c g w i o).mono fun _ _ ⟨v,m',h'',e,hc',o',r⟩=>⟨v,m',h'',e,hc',o',h _ _ r⟩
def Ends (P:Program) (G:ao) (c:World) (fn:Func) (h0:dx) (R:Value->ao->Prop):Exit->Fr->ao->Prop
 | .normal,f,m|.ret,f,m=>∃v post junk,(∀(a:Act) (w:World) (h:bJ),nL fn.ntmps a f->At c h w->ed h0 G m h->(results fn a.tmps).run P w = .ok v w) /\
   aR m (post++junk)/\R v post
 | _,_,_=>False
def tM (args:List Value):Fr:=fun i=>args.getD i undef
theorem tN {k:Nat} {args:List Value} (g:args.length<=k):nL k { tmps:=args.toArray++Array.replicate (k-args.toArray.size) undef,defers:=[] } (tM args):=by
 refine⟨by simp;omega,fun i=>?_,rfl⟩
 simp only[tM,List.getD_eq_getElem?_getD,Array.getD_eq_getD_getElem?]
 rcases Nat.lt_or_ge i args.length with hi|hi
 ·simp[Array.getElem?_append,hi]
 ·rw[Array.getElem?_append_right (by simpa using hi)]
  simp only[List.size_toArray,Array.getElem?_replicate,List.getElem?_eq_none hi]
  split<;>rfl
theorem EX {fid:FuncId} {fn:Func} {t:Code} {args:List Value} {m:ao} {R:Value->ao->Prop} (hf:P.funcs[fid]? = some fn) (hb:fn.body=some t)
  (u:args.length<=fn.ntmps) (h:∀c h0,h0.ex=false->J P G c fn.ntmps h0 t (Ends P G c fn h0 R) (tM args) m):av P G fid args.toArray m R:=by
 intro c j w y o
 refine calls_of_wp hf hb ?_
 refine wp_mono (h c ⟨j,m.keys,false⟩ rfl _ w j ?_ y o) ?_
 ·exact tN u
 ·rintro e a' w' ⟨z,m',p,k,i,l,q⟩;cases e
  case normal =>
   obtain⟨v,post,junk,g,j,r⟩:=q;exact⟨k.defers,v,g a' w' p k i l,v,post,p,rfl,i,(l.eqv j).drop,r⟩
  case ret =>
   obtain⟨v,post,junk,g,j,r⟩:=q;exact⟨k.defers,v,g a' w' p k i l,v,post,p,rfl,i,(l.eqv j).drop,r⟩
  all_goals exact q.elim
theorem Cx {fid:FuncId} {fn:Func} {r:Code} {args:List Value} {m:ao} {v:Value} (hf:P.funcs[fid]? = some fn) (hb:fn.body=some r)
  (y:args.length<=fn.ntmps)
  (h:∀c h0,J P (m++G) c fn.ntmps h0 r (Ends P (m++G) c fn h0 (fun u _=>u=v)) (tM args) []):aO P G fid args.toArray m v:=by
 intro c hp w A z l
 refine calls_of_wp hf hb ?_
 refine wp_mono (h c ⟨hp,[],true⟩ _ w hp ?_ A ⟨aZ _,by simpa using z,by simpa using l,by simp,fun _ _ _=>rfl,fun _=>rfl⟩) ?_
 ·exact tN y
 ·rintro e a' w' ⟨B,m',k,j,i,p,q⟩;have t:k=hp:=p.ex rfl
  subst t;cases e
  case normal =>
   obtain⟨u,post,junk,g,hp,rfl⟩:=q;exact⟨j.defers,u,g a' w' k j i p,rfl,i⟩
  case ret =>
   obtain⟨u,post,junk,g,hp,rfl⟩:=q;exact⟨j.defers,u,g a' w' k j i p,rfl,i⟩
  all_goals exact q.elim
end
end Go.Eng
namespace Go.Eng
open Go
inductive TK
 | int (k:IntKind)|bool|string|ptr (e:TypeId)|sl (e:TypeId)|arr (len:Nat) (e:TypeId)|st (fs:List (Nat×TypeId))|ifc|fn|bad
def iM (P:Program) (k:TK) (T:TypeId):Bool:=match k,P.underlying T with
 | .int k,some (.int k')=>decide (k=k')
 | .bool,some .bool=>true
 | .string,some .string=>true
 | .ptr e,some (.pointer e')=>Nat.beq e e'
 | .sl e,some (.slice e')=>Nat.beq e e'
 | .arr n e,some (.array n' e')=>Nat.beq n n'&&Nat.beq e e'
 | .st fs,some (.struct fields)=>fields.toList.map (fun f=>(f.offset,f.type))==fs
 | .ifc,some (.interface _)=>true
 | .fn,some (.func _ _ _)=>true
 | .bad,_=>true
 | _,_=>false
def zh (P:Program) (s b:Nat) (T:TypeId):Bool:=Nat.beq s 0||match P.info? T with
 | some i=>Nat.beq i.size s&&Nat.beq i.bytes b&&(match i.zero with|some z=>Nat.beq z.cells.size s|none=>false)
 | none=>false
def zi (P:Program) (f:FuncId):Bool:=match P.funcs[f]? with
 | some fn=>fn.body.isSome && !(fn.name == "runtime.NumGoroutine")
 | none=>false
class bA (P:Program) where
 tk:TypeId->TK
 sz:TypeId->Nat
 by_:TypeId->Nat
 go:FuncId->Bool
 tkOk:∀T,iM P (tk T) T=true
 szOk:∀T,zh P (sz T) (by_ T) T=true
 goOk:∀f,go f=true->zi P f=true
 mixed:P.follows .mixedOrders=true
section
variable {P:Program} [ty:bA P]
theorem ef {T:TypeId} {k:IntKind} (h:bA.tk P T = .int k):P.underlying T=some (.int k):=by
 have:=ty.tkOk T;rw[h] at this;unfold iM at this;split at this<;>simp_all
theorem pK {T:TypeId} (h:bA.tk P T = .bool):P.underlying T=some .bool:=by
 have:=ty.tkOk T;rw[h] at this;unfold iM at this;split at this<;>simp_all
theorem kF {T:TypeId} (h:bA.tk P T = .string):P.underlying T=some .string:=by
 have:=ty.tkOk T;rw[h] at this;unfold iM at this;split at this<;>simp_all
theorem qB {T e:TypeId} (h:bA.tk P T = .ptr e):P.underlying T=some (.pointer e):=by
 have:=ty.tkOk T;rw[h] at this;unfold iM at this;split at this<;>simp_all
theorem eR {T e:TypeId} (h:bA.tk P T = .sl e):P.underlying T=some (.slice e):=by
 have:=ty.tkOk T;rw[h] at this;unfold iM at this;split at this<;>simp_all
theorem qC {T e:TypeId} {k:Nat} (h:bA.tk P T = .arr k e):P.underlying T=some (.array k e):=by
 have:=ty.tkOk T;rw[h] at this;unfold iM at this;split at this<;>simp_all
theorem v9 {T:TypeId} {fs:List (Nat×TypeId)} (h:bA.tk P T = .st fs):∃fields,P.underlying T=some (.struct fields)/\fields.toList.map (fun f=>(f.offset,f.type))=fs:=by
 have:=ty.tkOk T;rw[h] at this;unfold iM at this;split at this<;>simp_all
theorem Hh {T:TypeId} (h:bA.tk P T = .fn):∃a b c,P.underlying T=some (.func a b c):=by
 have:=ty.tkOk T;rw[h] at this;unfold iM at this;split at this<;>simp_all
theorem v_ {T:TypeId} (h:bA.tk P T = .ifc):∃ms,P.underlying T=some (.interface ms):=by
 have:=ty.tkOk T;rw[h] at this;unfold iM at this;split at this<;>simp_all
def lS:TK->Bool
 | .int _|.bool|.string|.ptr _|.sl _|.ifc|.fn=>true
 | _=>false
theorem gA {T:TypeId} (h:lS (bA.tk P T)=true) (w:World):(isAgg T).run P w = .ok false w:=by
 unfold isAgg
 cases hk:bA.tk P T<;>rw[hk] at h<;>first|cases h|skip
 case int k=>simp[run_underlying (ef hk)]
 case bool=>simp[run_underlying (pK hk)]
 case string=>simp[run_underlying (kF hk)]
 case ptr e=>simp[run_underlying (qB hk)]
 case sl e=>simp[run_underlying (eR hk)]
 case ifc=>obtain⟨ms,g⟩:=v_ hk;simp[run_underlying g]
 case fn=>obtain⟨_,_,_,g⟩:=Hh hk;simp[run_underlying g]
theorem rn {T:TypeId} {s:Nat} (h:bA.sz P T=s) (h0:s≠0):∃i z,P.info? T=some i/\i.size=s/\i.bytes=bA.by_ P T/\i.zero=some z/\z.cells.size=s:=by
 have:=ty.szOk T
 rw[h] at this
 unfold zh at this
 simp only[Bool.or_eq_true] at this
 rcases this with this|this
 ·exact absurd (Nat.eq_of_beq_eq_true this) h0
 ·split at this
  ·rename_i i hi
   simp only[Bool.and_eq_true] at this
   obtain⟨⟨k,j⟩,g⟩:=this;split at g
   ·rename_i z hz
    exact⟨i,z,hi,Nat.eq_of_beq_eq_true k,Nat.eq_of_beq_eq_true j,hz,Nat.eq_of_beq_eq_true g⟩
   ·cases g
  ·cases this
theorem bP {T:TypeId} {s:Nat} (h:bA.sz P T=s) (h0:s≠0) (w:World):(sizeOf T).run P w = .ok s w:=by
 obtain⟨i,z,hi,hs,_⟩:=rn h h0
 simp[sizeOf,typeInfo,hi,hs]
theorem oK {f:FuncId} (h:bA.go P f=true) (args:Array Value) (w:World):(callFunc f args).run P w = .ok (.enter f args) w:=by
 have:=ty.goOk f h
 unfold zi at this
 split at this
 ·rename_i fn hf
  simp only[Bool.and_eq_true,Bool.not_eq_true',beq_eq_false_iff_ne,ne_eq,Option.isSome_iff_ne_none] at this
  obtain⟨hb,g⟩:=this;simp[callFunc,hf,g,hb]
 ·cases this
end
section
variable {P:Program}
variable {G:ao} {qs:List FuncId} {c:World} {n:Nat} {h0:dx} {ops:Array Oper} {Q:Fr->ao->Prop} {rest:List Oper} {f:Fr} {m:ao}
variable {d:Option Tmp} {T T' tt:TypeId} {pos:String} {aft:Array Edge}
theorem kt (h:Q f m):RO P G qs c n h0 ops Q [] f m:=h
theorem g_ {o:Oper} (h:o.guard=none):gF ops f o=true:=by simp[gF,Region.wanted,h]
theorem cY {o:Oper} {v:Value} (g:gE qs o.op=0) (hg:o.guard=none) (hd:aE n o.dst=true) (i:∀w,(execOp (ev f) o).run P w = .ok (.value v) w)
  (h:RO P G qs c n h0 ops Q rest (aV f o.dst v) m):RO P G qs c n h0 ops Q (o::rest) f m :=
 ⟨hd,.inl ⟨g_ hg,by rw[ai g];exact⟨v,i,h⟩⟩⟩
theorem dX {o:Oper} {v:Value} (k:gE qs o.op<=1) (hg:o.guard=none) (hd:aE n o.dst=true)
  (j:gE qs o.op=1->∀h w,ed h0 G m h->At c h w->Cu P c h w (execOp (ev f) o) v) (i:gE qs o.op=0->∀w,(execOp (ev f) o).run P w = .ok (.value v) w)
  (h:RO P G qs c n h0 ops Q rest (aV f o.dst v) m):RO P G qs c n h0 ops Q (o::rest) f m:=by
 refine⟨hd,.inl ⟨g_ hg,?_⟩⟩
 by_cases g:gE qs o.op=0
 ·rw[ai g];exact⟨v,i g,h⟩
 ·rw[ah g,ai aa];exact⟨v,j aa,h⟩
theorem Cy {o:Oper} {v:Value} (g:gE qs o.op<=1) (hg:o.guard=none) (hd:aE n o.dst=true) (i:∀w,(execOp (ev f) o).run P w = .ok (.value v) w)
  (h:RO P G qs c n h0 ops Q rest (aV f o.dst v) m):RO P G qs c n h0 ops Q (o::rest) f m :=
 dX g hg hd (fun _ _ w _ j=>⟨w,j,.inl (i w)⟩) (fun _=>i) h
theorem we {s d:TypeId} {x:Operand}:gE qs (.convert s d x)<=1:=by
 show(if qs.contains (1000000+1000*s+d)=true then 1 else 0)<=1
 split<;>omega
theorem ku {o:Oper} (k:gE qs o.op=2) (hg:o.guard=none) (hd:aE n o.dst=true)
  (h:∀h w,ed h0 G m h->At c h w->∀a,nL n a f->o.wp P a w (fun a' w'=>∃i m' g,nL n a' i/\At c g w'/\ed h0 G m' g/\RO P G qs c n h0 ops Q rest i m') jf) :
  RO P G qs c n h0 ops Q (o::rest) f m :=
 ⟨hd,.inl ⟨g_ hg,by
  rw[ah aa,ah aa];intro g w j l a r;exact Oper.wp_mono (fun _ _ ⟨i,m',h'',r',hc',o',hK⟩=>⟨i,m',h'',r',hc',o',fun p=>aa,hK⟩) (h g w j l a r)⟩⟩
theorem oL {o:Oper} (k:gE qs o.op=3) (hg:o.guard=none) (hd:aE n o.dst=true)
  (h:∀h w,ed h0 G m h->At c h w->∀a,nL n a f->o.wp P a w (fun a' w'=>∃i m' g,nL n a' i/\At c g w'/\ed h0 G m' g/\dz h0 G h g/\RO P G qs c n h0 ops Q rest i m') jf) :
  RO P G qs c n h0 ops Q (o::rest) f m :=
 ⟨hd,.inl ⟨g_ hg,by
  rw[ah aa,ah aa];intro g w j l a r;exact Oper.wp_mono (fun _ _ ⟨i,m',h'',r',hc',o',hx,hK⟩=>⟨i,m',h'',r',hc',o',fun _=>hx,hK⟩) (h g w j l a r)⟩⟩
theorem EY {o:Oper} (g:gF ops f o=true) (h:RO P G qs c n h0 ops Q ({ o with guard:=none }::rest) f m):RO P G qs c n h0 ops Q (o::rest) f m:=by
 obtain⟨hd,h⟩:=h
 refine⟨hd,.inl ⟨g,?_⟩⟩
 rcases h with⟨_,h⟩|⟨hf,_⟩
 ·exact h
 ·rw[g_ rfl] at hf;cases hf
theorem AU {o:Oper} (hd:aE n o.dst=true) (g:gF ops f o=false) (h:RO P G qs c n h0 ops Q rest (aV f o.dst undef) m):RO P G qs c n h0 ops Q (o::rest) f m :=
 ⟨hd,.inr ⟨g,h⟩⟩
theorem wg {l:List Oper} (t:Nat) {b:Bool} (hb:f t = .bool b) (g:b=true->RO P G qs c n h0 ops Q l (gK f t (.bool true)) m) (h:b=false->RO P G qs c n h0 ops Q l (gK f t (.bool false)) m) :
  RO P G qs c n h0 ops Q l f m:=by
 cases b
 ·have:=h rfl;rw[<- hb,rP] at this;exact this
 ·have:=g rfl;rw[<- hb,rP] at this;exact this
theorem aJ {l:List Oper} (t:Nat) {p:Prop} [Decidable p] (hb:f t = .bool (decide p)) (g:p->RO P G qs c n h0 ops Q l (gK f t (.bool true)) m) (i:¬p->RO P G qs c n h0 ops Q l (gK f t (.bool false)) m) :
  RO P G qs c n h0 ops Q l f m :=
 wg t hb (fun h=>g (of_decide_eq_true h)) (fun h=>i (of_decide_eq_false h))
theorem ro {x:Operand} {v:Value} (hx:ev f x=v) (hd:aE n d=true) (h:RO P G qs c n h0 ops Q rest (aV f d v) m):RO P G qs c n h0 ops Q (⟨d,.move x,tt,pos,aft,none⟩::rest) f m :=
 cY rfl rfl hd (fun w=>by simp[execOp,hx]) h
theorem mQ {x:Operand} {v:Value} (hx:ev f x=v) (hd:aE n d=true) (h:RO P G qs c n h0 ops Q rest (aV f d v) m):RO P G qs c n h0 ops Q (⟨d,.assign x,tt,pos,aft,none⟩::rest) f m :=
 cY rfl rfl hd (fun w=>by simp[execOp,hx]) h
theorem j_ {x y z:Operand} {b:Bool} {v:Value} (hx:ev f x = .bool b) (g:(bif b then ev f y else ev f z)=v) (hd:aE n d=true) (h:RO P G qs c n h0 ops Q rest (aV f d v) m) :
  RO P G qs c n h0 ops Q (⟨d,.pick x y z,tt,pos,aft,none⟩::rest) f m :=
 cY rfl rfl hd (fun w=>by subst g;cases b<;>simp[execOp,hx,asBool]) h
theorem lj {x:Operand} {i:Nat} {vs:List Value} {v:Value} (hx:ev f x = .tuple vs.toArray) (g:vs[i]? = some v) (hd:aE n d=true) (h:RO P G qs c n h0 ops Q rest (aV f d v) m) :
  RO P G qs c n h0 ops Q (⟨d,.extract x i,tt,pos,aft,none⟩::rest) f m :=
 cY rfl rfl hd (fun w=>by simp[execOp,hx,Instr.extract,g]) h
theorem lk {x:Operand} {b:Bool} (hx:ev f x = .bool b) (hd:aE n d=true) (h:RO P G qs c n h0 ops Q rest (aV f d (.bool !b)) m) :
  RO P G qs c n h0 ops Q (⟨d,.unOp .not T x,tt,pos,aft,none⟩::rest) f m :=
 cY rfl rfl hd (fun w=>by simp[execOp,hx,Op.unary]) h
theorem rp {x:Operand} {p:Prop} [Decidable p] (hx:ev f x = .bool (decide p)) (hd:aE n d=true) (h:RO P G qs c n h0 ops Q rest (aV f d (.bool (decide ¬p))) m) :
  RO P G qs c n h0 ops Q (⟨d,.unOp .not T x,tt,pos,aft,none⟩::rest) f m :=
 lk hx hd (by rw[show(!decide p)=decide (¬p) from by simp];exact h)
theorem Cz {x:Operand} {k:IntKind} {a:Int} (hx:ev f x = .int k a) (hd:aE n d=true) (h:RO P G qs c n h0 ops Q rest (aV f d (.int k (k.wrap (0-a)))) m) :
  RO P G qs c n h0 ops Q (⟨d,.unOp .neg T x,tt,pos,aft,none⟩::rest) f m :=
 cY rfl rfl hd (fun w=>by simp[execOp,hx,Op.unary,Op.intArith]) h
def JT (op:BinOp) (k:IntKind) (a b:Int):Option Value :=
 match op with
 | .add=>some (.int k (k.wrap (a+b)))
 | .sub=>some (.int k (k.wrap (a-b)))
 | .mul=>some (.int k (k.wrap (a*b)))
 | .and=>some (.int k (k.wrap (BitVec.ofInt k.bits a&&&BitVec.ofInt k.bits b).toNat))
 | .or=>some (.int k (k.wrap (BitVec.ofInt k.bits a|||BitVec.ofInt k.bits b).toNat))
 | .xor=>some (.int k (k.wrap (BitVec.ofInt k.bits a ^^^ BitVec.ofInt k.bits b).toNat))
 | .andNot=>some (.int k (k.wrap (BitVec.ofInt k.bits a &&& ~~~BitVec.ofInt k.bits b).toNat))
 | .lss=>some (.bool (decide (a<b)))
 | .leq=>some (.bool (decide (a<=b)))
 | .gtr=>some (.bool (decide (a>b)))
 | .geq=>some (.bool (decide (a ≥ b)))
 | _=>none
theorem dq {op:BinOp} {x y:Operand} {k:IntKind} {a b:Int} {v:Value} (hx:ev f x = .int k a) (i:ev f y = .int k b) (g:JT op k a b=some v) (hd:aE n d=true)
  (h:RO P G qs c n h0 ops Q rest (aV f d v) m):RO P G qs c n h0 ops Q (⟨d,.binOp op T x y T',tt,pos,aft,none⟩::rest) f m:=by
 refine cY ?_ rfl hd (fun w=>?_) h
 ·cases op<;>first|rfl|cases g
 ·cases op<;>first|(cases g;done)|(cases g;simp[execOp,hx,i,eqGuard,binOp,Op.intArith,Op.intBits,Op.intCmp])
theorem rS {x y:Operand} {k:IntKind} {a b:Int} (hx:ev f x = .int k a) (i:ev f y = .int k b) (g:k.wrap (a+b)=a+b) (hd:aE n d=true)
  (h:RO P G qs c n h0 ops Q rest (aV f d (.int k (a+b))) m):RO P G qs c n h0 ops Q (⟨d,.binOp .add T x y T',tt,pos,aft,none⟩::rest) f m :=
 dq hx i rfl hd (by rw[g];exact h)
theorem rT {x y:Operand} {k:IntKind} {a b:Int} (hx:ev f x = .int k a) (i:ev f y = .int k b) (g:k.wrap (a-b)=a-b) (hd:aE n d=true)
  (h:RO P G qs c n h0 ops Q rest (aV f d (.int k (a-b))) m):RO P G qs c n h0 ops Q (⟨d,.binOp .sub T x y T',tt,pos,aft,none⟩::rest) f m :=
 dq hx i rfl hd (by rw[g];exact h)
theorem yf {x y:Operand} {k:IntKind} {a b:Int} (hx:ev f x = .int k a) (i:ev f y = .int k b) (g:k.wrap (a*b)=a*b) (hd:aE n d=true)
  (h:RO P G qs c n h0 ops Q rest (aV f d (.int k (a*b))) m):RO P G qs c n h0 ops Q (⟨d,.binOp .mul T x y T',tt,pos,aft,none⟩::rest) f m :=
 dq hx i rfl hd (by rw[g];exact h)
theorem Hi {x y:Operand} {k:IntKind} {a b:Int} (hx:ev f x = .int k a) (g:ev f y = .int k b) (hb:b≠0) (hd:aE n d=true)
  (h:RO P G qs c n h0 ops Q rest (aV f d (.int k (k.wrap (a.tdiv b)))) m):RO P G qs c n h0 ops Q (⟨d,.binOp .quo T x y T',tt,pos,aft,none⟩::rest) f m :=
 cY rfl rfl hd (fun w=>by simp[execOp,hx,g,eqGuard,binOp,Op.intDiv,hb]) h
theorem uN {x y:Operand} {k:IntKind} {a b:Int} (hx:ev f x = .int k a) (g:ev f y = .int k b) (hb:b≠0) (hd:aE n d=true)
  (h:RO P G qs c n h0 ops Q rest (aV f d (.int k (a.tmod b))) m):RO P G qs c n h0 ops Q (⟨d,.binOp .rem T x y T',tt,pos,aft,none⟩::rest) f m :=
 cY rfl rfl hd (fun w=>by simp[execOp,hx,g,eqGuard,binOp,Op.intDiv,hb]) h
theorem yg {x y:Operand} {k k':IntKind} {a b:Int} (hx:ev f x = .int k a) (g:ev f y = .int k' b) (hb:0<=b) (hd:aE n d=true)
  (h:RO P G qs c n h0 ops Q rest (aV f d (.int k (k.wrap (a*2^(min b.toNat k.bits))))) m):RO P G qs c n h0 ops Q (⟨d,.binOp .shl T x y T',tt,pos,aft,none⟩::rest) f m :=
 cY rfl rfl hd (fun w=>by simp[execOp,hx,g,eqGuard,binOp,Op.shift,show ¬b<0 from aa]) h
theorem CA {x y:Operand} {k k':IntKind} {a b:Int} (hx:ev f x = .int k a) (g:ev f y = .int k' b) (hb:0<=b) (hd:aE n d=true)
  (h:RO P G qs c n h0 ops Q rest (aV f d (.int k (a.fdiv (2^(min b.toNat k.bits))))) m):RO P G qs c n h0 ops Q (⟨d,.binOp .shr T x y T',tt,pos,aft,none⟩::rest) f m :=
 cY rfl rfl hd (fun w=>by simp[execOp,hx,g,eqGuard,binOp,Op.shift,show ¬b<0 from aa]) h
theorem kG {x y:Operand} {k:IntKind} {a b:Int} (hx:ev f x = .int k a) (i:ev f y = .int k b) (hd:aE n d=true)
  (h:RO P G qs c n h0 ops Q rest (aV f d (.bool (decide (a=b)))) m):RO P G qs c n h0 ops Q (⟨d,.binOp .eql T x y T',tt,pos,aft,none⟩::rest) f m :=
 have g:∀w,(execOp (ev f) ⟨d,.binOp .eql T x y T',tt,pos,aft,none⟩).run P w = .ok (.value (.bool (decide (a=b)))) w:=fun w=>by
  simp[execOp,hx,i,eqGuard,binOp,Op.intCmp];rfl
 dX (aZ _) rfl hd (fun _ _ w _ j=>⟨w,j,.inl (g w)⟩) (fun _=>g) h
theorem mh {x y:Operand} {k:IntKind} {a b:Int} (hx:ev f x = .int k a) (i:ev f y = .int k b) (hd:aE n d=true)
  (h:RO P G qs c n h0 ops Q rest (aV f d (.bool (decide (a≠b)))) m):RO P G qs c n h0 ops Q (⟨d,.binOp .neq T x y T',tt,pos,aft,none⟩::rest) f m :=
 have g:∀w,(execOp (ev f) ⟨d,.binOp .neq T x y T',tt,pos,aft,none⟩).run P w = .ok (.value (.bool (decide (a≠b)))) w:=fun w=>by
  simp[execOp,hx,i,eqGuard,binOp,Op.intCmp,bne];rfl
 dX (aZ _) rfl hd (fun _ _ w _ j=>⟨w,j,.inl (g w)⟩) (fun _=>g) h
theorem wi {fn:Fn} {j i:Array Operand} {vs g:Array Value} (hx:j.map (ev f)=vs) (k:i.map (ev f)=g) (hd:aE n d=true)
  (h:RO P G qs c n h0 ops Q rest (aV f d (.func fn vs g)) m):RO P G qs c n h0 ops Q (⟨d,.makeFunc fn j i,tt,pos,aft,none⟩::rest) f m :=
 cY rfl rfl hd (fun w=>by simp[execOp,hx,k,Instr.makeFunc]) h
theorem eU (b o k:Nat):Addr.add ⟨b,o,none⟩ k=⟨b,o+k,none⟩:=by
 unfold Addr.add;split
 ·rename_i h;subst h;rfl
 ·rfl
end
section
variable {P:Program} [ty:bA P]
variable {G:ao} {qs:List FuncId} {c:World} {n:Nat} {h0:dx} {ops:Array Oper} {Q:Fr->ao->Prop} {rest:List Oper} {f:Fr} {m:ao}
variable {d:Option Tmp} {T T' tt:TypeId} {pos:String} {aft:Array Edge}
theorem rU {x:Operand} {k k':IntKind} {a:Int} (hx:ev f x = .int k a) (hs:bA.tk P T = .int k) (ht:bA.tk P T' = .int k') (hd:aE n d=true)
  (h:RO P G qs c n h0 ops Q rest (aV f d (.int k' (k'.wrap a))) m):RO P G qs c n h0 ops Q (⟨d,.convert T T' x,tt,pos,aft,none⟩::rest) f m :=
 Cy we rfl hd (fun w=>by simp[execOp,hx,convert,run_underlying (ef hs),run_underlying (ef ht),Conv.intToInt]) h
theorem mR {x:Operand} {k k':IntKind} {a:Int} (hx:ev f x = .int k a) (hs:bA.tk P T = .int k) (ht:bA.tk P T' = .int k') (g:k'.wrap a=a) (hd:aE n d=true)
  (h:RO P G qs c n h0 ops Q rest (aV f d (.int k' a)) m):RO P G qs c n h0 ops Q (⟨d,.convert T T' x,tt,pos,aft,none⟩::rest) f m :=
 rU hx hs ht hd (by rw[g];exact h)
def yh:TK->Bool
 | .ifc|.bad=>false
 | _=>true
theorem gl {x:Operand} {v:Value} (hx:ev f x=v) (g:yh (bA.tk P T)=true) (hd:aE n d=true)
  (h:RO P G qs c n h0 ops Q rest (aV f d (.iface T v)) m):RO P G qs c n h0 ops Q (⟨d,.makeInterface T x,tt,pos,aft,none⟩::rest) f m:=by
 refine cY rfl rfl hd (fun w=>?_) h
 cases hk:bA.tk P T<;>rw[hk] at g<;>first|cases g|skip
 case int k=>simp[execOp,hx,Instr.makeInterface,run_underlying (ef hk)]
 case bool=>simp[execOp,hx,Instr.makeInterface,run_underlying (pK hk)]
 case string=>simp[execOp,hx,Instr.makeInterface,run_underlying (kF hk)]
 case ptr e=>simp[execOp,hx,Instr.makeInterface,run_underlying (qB hk)]
 case sl e=>simp[execOp,hx,Instr.makeInterface,run_underlying (eR hk)]
 case arr k e=>simp[execOp,hx,Instr.makeInterface,run_underlying (qC hk)]
 case st fs=>obtain⟨i,hf,_⟩:=v9 hk;simp[execOp,hx,Instr.makeInterface,run_underlying hf]
 case fn=>obtain⟨_,_,_,hf⟩:=Hh hk;simp[execOp,hx,Instr.makeInterface,run_underlying hf]
def rq (k:TK) (i:Nat):Option (Nat×TypeId):=match k with|.st fs=>fs[i]? | _=>none
theorem rV {x y:Operand} {b o len cap:Nat} {k:IntKind} {i:Int} {e s:Nat} (hx:ev f x = .slice (some ⟨b,o,none⟩) len cap) (g:ev f y = .int k i) (l:bA.tk P T = .sl e) (hs:bA.sz P e=s+1)
  (p:0<=i) (j:i<len) (hd:aE n d=true)
  (h:RO P G qs c n h0 ops Q rest (aV f d (.pointer (some ⟨b,o+i.toNat*(s+1),none⟩))) m):RO P G qs c n h0 ops Q (⟨d,.indexAddr T x y,tt,pos,aft,none⟩::rest) f m :=
 cY rfl rfl hd (fun w=>by simp[execOp,hx,g,Instr.indexAt,asIntOf,run_underlying (eR l),p,j,bP hs aa,eU]) h
theorem mi {x y:Operand} {b o len cap:Nat} {k:IntKind} {i:Int} {e:Nat} (hx:ev f x = .slice (some ⟨b,o,none⟩) len cap) (g:ev f y = .int k i) (l:bA.tk P T = .sl e) (hs:bA.sz P e=1)
  (p:0<=i) (j:i<len) (hd:aE n d=true)
  (h:RO P G qs c n h0 ops Q rest (aV f d (.pointer (some ⟨b,o+i.toNat,none⟩))) m):RO P G qs c n h0 ops Q (⟨d,.indexAddr T x y,tt,pos,aft,none⟩::rest) f m :=
 rV hx g l hs p j hd (by simpa using h)
theorem qD {x y:Operand} {b o len:Nat} {k:IntKind} {i:Int} {e s:Nat} (hx:ev f x = .pointer (some ⟨b,o,none⟩)) (g:ev f y = .int k i) (l:bA.tk P T = .arr len e) (hs:bA.sz P e=s+1)
  (p:0<=i) (j:i<len) (hd:aE n d=true)
  (h:RO P G qs c n h0 ops Q rest (aV f d (.pointer (some ⟨b,o+i.toNat*(s+1),none⟩))) m):RO P G qs c n h0 ops Q (⟨d,.indexAddr T x y,tt,pos,aft,none⟩::rest) f m :=
 cY rfl rfl hd (fun w=>by simp[execOp,hx,g,Instr.indexAt,asIntOf,run_underlying (qC l),p,j,bP hs aa,eU,Instr.sureAddr]) h
theorem lp {x y:Operand} {b o len:Nat} {k:IntKind} {i:Int} {e:Nat} (hx:ev f x = .pointer (some ⟨b,o,none⟩)) (g:ev f y = .int k i) (l:bA.tk P T = .arr len e) (hs:bA.sz P e=1)
  (p:0<=i) (j:i<len) (hd:aE n d=true)
  (h:RO P G qs c n h0 ops Q rest (aV f d (.pointer (some ⟨b,o+i.toNat,none⟩))) m):RO P G qs c n h0 ops Q (⟨d,.indexAddr T x y,tt,pos,aft,none⟩::rest) f m :=
 qD hx g l hs p j hd (by simpa using h)
end
end Go.Eng
