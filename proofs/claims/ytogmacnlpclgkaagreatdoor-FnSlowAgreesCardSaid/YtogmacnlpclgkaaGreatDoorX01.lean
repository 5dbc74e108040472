/- Texts 01. -/
import Derived.Orders
import Derived.Tactics
set_option linter.all false
namespace Go
theorem aa {p:Prop} (h:p:=by omega):p:=h
theorem ah {c:Prop} {h:Decidable c} (hn:¬c) {α:Sort _} {t e:α}:ite c t e=e:=if_neg hn
theorem ai {c:Prop} {h:Decidable c} (hc:c) {α:Sort _} {t e:α}:ite c t e=t:=if_pos hc
theorem aZ (n:Nat):n<=n:=Nat.le_refl n
abbrev bi (b:Nat):Option Addr:=some ⟨b,0,none⟩
abbrev bf (b:Nat):Value:=.pointer (some ⟨b,0,none⟩)
abbrev ay (n:Nat):Value:=.int .i64 (n:Int)
end Go
namespace Go.Eng
open Go
abbrev bJ:=Array Obj
def At (c:World) (h:bJ) (w:World):Prop:=w.heap=h/\w.tape=c.tape/\w.os=c.os/\w.output=c.output
theorem At.self (w:World):At w w.heap w:=⟨rfl,rfl,rfl,rfl⟩
theorem At.drew {c:World} {h:bJ} {w:World} (a:At c h w) (k:Nat):At c h { w with drawn:=k }:=⟨a.1,a.2.1,a.2.2.1,a.2.2.2⟩
def gE (qs:List FuncId):Op->Nat
 | .move _|.assign _|.pick .. | .nilCheck _|.unOp .. | .makeInterface .. | .makeFunc .. | .slice .. | .fieldAddr .. | .field ..
 | .indexAddr .. | .index .. | .extract .. | .build .. | .typeAssert .. => 0
 | .convert s d _=>if qs.contains (1000000+1000*s+d) then 1 else 0
 | .binOp .eql .. | .binOp .neq .. => 1
 | .binOp .. => 0
 | .load .. => 1
 | .alloc _|.box .. | .buildSlice .. | .makeSlice .. => 3
 | .call c=>match c.callee with
  | .builtin .len|.builtin .cap|.builtin .min|.builtin .max=>0
  | .value (.func f)=>if qs.contains f then 1 else 2
  | _=>2
 | _=>2
section
variable {P:Program} {ops:Array Oper} {c:World} {qs:List FuncId} {X:bJ->bJ->Prop}
def ft (P:Program) (ops:Array Oper) (c:World) (h:bJ) (o:Oper) (v:Value) (a:Act):Prop :=
 (Region.wanted o (yielded ops a.tmps)=true/\∀w,At c h w->∃w',At c h w' /\
  ((execOp a.eval o).run P w = .ok (.value v) w'\/∃f args,(execOp a.eval o).run P w = .ok (.enter f args) w'/\Calls P f args w' (fun e g=>e = .returned v/\At c h g))) \/
 (Region.wanted o (yielded ops a.tmps)=false/\v=undef)
theorem ft.of_same {h:bJ} {o:Oper} {v:Value} {a a':Act} (j:ft P ops c h o v a) (i:execOp a'.eval o=execOp a.eval o)
  (g:Region.wanted o (yielded ops a'.tmps)=Region.wanted o (yielded ops a.tmps)):ft P ops c h o v a':=by
 unfold ft at *;rw[i,g];exact j
theorem ft.of_yields {h:bJ} {o:Oper} {v:Value} {a:Act} (j:Yields P ops o v a):ft P ops c h o v a:=by
 rcases j with⟨g,i⟩|⟨g,rfl⟩
 ·exact .inl ⟨g,fun w k=>⟨w,k,.inl (i w)⟩⟩
 ·exact .inr ⟨g,rfl⟩
def jf:Exit->Act->World->Prop:=fun _ _ _=>False
def GQ (P:Program) (ops:Array Oper) (c:World) (h:bJ) (i:Nat) (K:Act->Prop) (a:Act):Prop :=
 ∃o,ops[i]? = some o/\∃v,ft P ops c h o v a/\K (a.put o.dst v)
def jA (P:Program) (ops:Array Oper) (c:World) (qs:List FuncId) (X:bJ->bJ->Prop) (QN:Act->bJ->Prop):Nat->Array Bool->Act->bJ->Prop
 | 0,listed,a,h=>Region.ready .any ops listed=[]/\QN a h
 | fuel+1,listed,a,h =>
  (Region.ready .any ops listed=[]->QN a h) /\
  ∀i∈Region.ready .any ops listed,∀o,ops[i]? = some o ->
   if gE qs o.op<=1 then GQ P ops c h i (fun a'=>jA P ops c qs X QN fuel (listed.setIfInBounds i true) a' h) a
   else ∀w,At c h w->wpOp P ops jf i (fun a' w'=>∃g,At c g w'/\(gE qs o.op=3->X h g)/\jA P ops c qs X QN fuel (listed.setIfInBounds i true) a' g) a w
theorem Oper.wp_noWay {o:Oper} {a:Act} {w:World} {K:Act->World->Prop} {Q:Exit->Act->World->Prop} (g:o.wp P a w K jf):o.wp P a w K Q:=by
 unfold Oper.wp at *
 generalize (execOp a.eval o).run P w=r at *
 cases r with
 | ok n w' =>
  cases n<;>simp only[Oper.upon] at g ⊢ <;>
   first
    | exact g
    | exact Calls.mono g (fun e i h=>by cases e<;>first|exact h|exact h.elim|(obtain⟨_,_,h⟩:=h;exact h.elim))
 | halt x w'=>cases x<;>simp only[Oper.upon] at g ⊢ <;> first|exact g.elim|exact g
theorem nT {i:Nat} {a:Act} {w:World} {K:Act->World->Prop} {Q:Exit->Act->World->Prop} (g:wpOp P ops jf i K a w):wpOp P ops Q i K a w:=by
 unfold wpOp at *
 split
 ·simpa[*] using g
 ·rename_i o ho
  simp only[ho] at g
  split
  ·rename_i hw
   simp only[hw,if_true] at g
   rcases g with g|⟨_,_,_,g⟩
   ·exact .inl (Oper.wp_noWay g)
   ·exact g.elim
  ·rename_i hw;simp only[hw] at g;exact g
theorem mf {h:bJ} {i:Nat} {a:Act} {w:World} {K:Act->Prop} {u:Act->World->Prop} {Q:Exit->Act->World->Prop}
  (t:At c h w) (p:∀a w,At c h w->K a->u a w) (z:GQ P ops c h i K a):wpOp P ops Q i u a w:=by
 obtain⟨o,y,v,k,r⟩:=z
 unfold wpOp
 simp only[y]
 rcases k with⟨j,k⟩|⟨j,rfl⟩
 ·simp only[j,if_true]
  refine .inl ?_
  unfold Oper.wp
  obtain⟨w',q,l|⟨f,args,l,g⟩⟩:=k w t
  ·rw[l];exact p _ _ q r
  ·rw[l];refine Calls.mono g fun e w'' ⟨he,hc''⟩=>?_
   subst he;exact p _ _ hc'' r
 ·simp only[j,Bool.false_eq_true,if_false]
  exact p _ _ t r
theorem nU {QN:Act->bJ->Prop} {Q:Exit->Act->World->Prop} (hQ:∀a h w,At c h w->QN a h->Q .normal a w) :
  ∀(fuel:Nat) (listed:Array Bool) (a:Act) (h:bJ) (w:World),At c h w->jA P ops c qs X QN fuel listed a h->wpAny P .any ops Q fuel listed a w
 | 0,_,_,_,_,hc,hh=>⟨hh.1,hQ _ _ _ hc hh.2⟩
 | fuel+1,listed,a,h,w,hc,hh=>by
  refine⟨fun h0=>hQ _ _ _ hc (hh.1 h0),fun i hi=>?_⟩
  obtain⟨_,o,l,_⟩:=mem_ready.1 hi;have k:=hh.2 i hi o l
  split at k
  ·exact mf hc (fun a' w' g j=>nU hQ fuel _ a' h w' g j) k
  ·exact nT (wpOp_mono (fun a' w' ⟨j,g,_,h2⟩=>nU hQ fuel _ a' j w' g h2) (k w hc))
theorem rl {h:bJ} {j:Nat} {g oj:Oper} {v:Value} (B:ops[j]? = some oj) (l:g.apart ops oj=true)
  (i:∀cs b,g.op ≠ .select cs b) (p:∀cs b,oj.op ≠ .select cs b) {Y:Act->Prop}
  (F:∀a a',Y a->execOp a'.eval g=execOp a.eval g->Region.wanted g (yielded ops a'.tmps)=Region.wanted g (yielded ops a.tmps)->Y a') {K:Act->Prop} {a:Act}
  (y:Y a) (z:GQ P ops c h j K (a.put g.dst v)) :
  GQ P ops c h j (fun a'=>Y a'/\K (a'.put g.dst v)) a:=by
 obtain⟨t,A,r⟩:=Oper.apart_spec l
 obtain⟨o,q,u,k,C⟩:=z
 have:o=oj:=Option.some.inj (q.symm.trans B)
 subst this
 refine⟨o,q,u,k.of_same (execOp_put o p a g.dst v t).symm (wanted_put o a g.dst v t).symm,?_,?_⟩
 ·exact F a _ y (execOp_put g i a o.dst u r) (wanted_put g a o.dst u r)
 ·rw[<- Act.put_comm a v u A];exact C
theorem kE {i:Nat} {listed:Array Bool} (h:i∈Region.ready .any ops listed):listed.getD i false=false:=by
 have h0:=(mem_ready.1 h).1
 rcases Nat.lt_or_ge i listed.size with g|g
 ·simp[g] at h0 ⊢;exact h0
 ·simp[Array.getElem?_eq_none g]
theorem AN {QN:Act->bJ->Prop} {i:Nat} {oi:Oper} {v:Value} (hi:ops[i]? = some oi) (M:Region.noSelect ops=true) (A:gE qs oi.op<=1) :
  ∀(fuel:Nat) (listed:Array Bool) (a:Act) (h:bJ),
   (∀j oj,ops[j]? = some oj->j≠i->listed.getD j true=false->(∀e∈oj.after,Region.binds .any e=true->e.on≠i)->oi.apart ops oj=true) ->
   i∈Region.ready .any ops listed->Yields P ops oi v a ->
   jA P ops c qs X QN fuel (listed.setIfInBounds i true) (a.put oi.dst v) h->jA P ops c qs X QN (fuel+1) listed a h:=by
 have l:=Region.noSelect_spec M
 intro fuel
 induction fuel with
 | zero =>
  intro listed a h _ B O H;refine⟨fun h=>(by rw[h] at B;cases B),fun j hj oj g=>?_⟩
  by_cases p:j=i
  ·subst p;have:oj=oi:=Option.some.inj (g.symm.trans hi)
   subst this;rw[ai A];exact⟨oj,g,v,.of_yields O,H⟩
  ·have:=ready_mono hj p
   rw[H.1] at this;cases this
 | succ fuel ih =>
  intro listed a h r B O H;refine⟨fun h=>(by rw[h] at B;cases B),fun j hj oj g=>?_⟩
  by_cases p:j=i
  ·subst p;have:oj=oi:=Option.some.inj (g.symm.trans hi)
   subst this;rw[ai A];exact⟨oj,g,v,.of_yields O,H⟩
  ·have J:=H.2 j (ready_mono hj p) oj g
   obtain⟨z,t,U,W⟩:=mem_ready.1 hj;have:t=oj:=Option.some.inj (U.symm.trans g)
   subst this;have I:∀e∈t.after,Region.binds .any e=true->e.on≠i:=fun e he hb al=>by
    have h2:=W e he hb
    rw[al,kE B] at h2;cases h2
   have K:=r j t g p z I
   have q:∀k ok,ops[k]? = some ok->k≠i->(listed.setIfInBounds j true).getD k true=false ->
     (∀e∈ok.after,Region.binds .any e=true->e.on≠i)->oi.apart ops ok=true:=fun k ok hk ad V ab=>by
    refine r k ok hk ad ?_ ab
    by_cases F:j=k
    ·subst F;exact z
    ·rw[getD_set_ne true F] at V;exact V
   rw[Array.setIfInBounds_comm _ _ (Ne.symm p)] at J;split
   ·rename_i hc1
    rw[ai hc1] at J;have h2:=rl g K (fun cs b=>l i oi cs b hi) (fun cs b=>l j t cs b g) (Y:=Yields P ops oi v) (fun a a' y e w=>y.of_same e w) O J
    obtain⟨o,ho,u,aw,C,hK⟩:=h2;exact⟨o,ho,u,aw,ih _ _ h q (ready_mono B (Ne.symm p)) C hK⟩
   ·rename_i hc1
    rw[ah hc1] at J;intro w hc;refine wpOp_mono (fun a' w' h3=>?_) (wpOp_put g K (fun cs b=>l i oi cs b hi) (fun cs b=>l j t cs b g) (fun _ _ _ h=>h) O (J w hc))
    obtain⟨C,h',am,hx,hK⟩:=h3;exact⟨h',am,hx,ih _ _ h' q (ready_mono B (Ne.symm p)) C hK⟩
theorem x_ {ρ:Operand->Value} {o:Oper} {w w':World} {n:Next} (h:gE qs o.op=3) (i:(execOp ρ o).run P w = .ok n w'):∃v,n = .value v:=by
 obtain⟨d,op,tt,pos,aft,g⟩:=o
 simp only at h
 have key:∀{s:Sem Value},((do pure (.value (<- s)):Sem Next).run P w = .ok n w')->∃v,n = .value v:=by
  intro s hs;rw[Sem.run_bind] at hs
  cases hq:s.run P w with
  | ok v w1 =>
   rw[hq] at hs;simp only[Result.andThen_ok,Sem.run_pure,Result.ok.injEq] at hs
   exact⟨v,hs.1.symm⟩
  | halt x w1=>rw[hq] at hs;cases hs
 unfold gE at h
 split at h<;>first|(cases h;done)|skip
 all_goals first
  | exact key i
  | (split at h<;>first|(cases h;done)|(split at h<;>cases h))
theorem AO {j:Nat} {g i:Oper} {v:Value} (l:gE qs i.op=3) (A:ops[j]? = some i) (p:g.apart ops i=true)
  (k:∀cs b,g.op ≠ .select cs b) (q:∀cs b,i.op ≠ .select cs b) {Y:Act->Prop}
  (B:∀a a',Y a->execOp a'.eval g=execOp a.eval g->Region.wanted g (yielded ops a'.tmps)=Region.wanted g (yielded ops a.tmps)->Y a') {K:Act->World->Prop} {a:Act} {w:World}
  (z:Y a) (h:wpOp P ops jf j K (a.put g.dst v) w) :
  wpOp P ops jf j (fun a' w'=>Y a'/\K (a'.put g.dst v) w') a w:=by
 obtain⟨y,r,t⟩:=Oper.apart_spec p
 have keep:∀u,Y (a.put i.dst u):=fun u=>B a _ z (execOp_put g k a i.dst u t) (wanted_put g a i.dst u t)
 unfold wpOp at h ⊢
 simp only[A] at h ⊢
 rw[wanted_put i a g.dst v y] at h
 cases hw:Region.wanted i (yielded ops a.tmps) with
 | false =>
  rw[hw] at h;simp only[Bool.false_eq_true,if_false] at h ⊢
  exact⟨keep _,by rw[<- Act.put_comm a v undef r];exact h⟩
 | true =>
  rw[hw] at h;simp only[if_true] at h ⊢
  rcases h with h|⟨_,_,_,h⟩
  ·refine .inl ?_
   unfold Oper.wp at h ⊢
   rw[execOp_put i q a g.dst v y] at h
   cases hr:(execOp a.eval i).run P w with
   | ok n w' =>
    obtain⟨u,rfl⟩:=x_ l hr;rw[hr] at h;exact⟨keep u,by rw[<- Act.put_comm a v u r];exact h⟩
   | halt x w' =>
    rw[hr] at h
    cases x<;>simp only[Oper.upon] at h ⊢ <;> first|exact h.elim|exact h
  ·exact h.elim
theorem AP (V:∀h,X h h) (a1:∀h q A,X h q->X q A->X h A) {QN:Act->bJ->Prop} {i:Nat} {oi:Oper} {v:Value} (hi:ops[i]? = some oi) (W:Region.noSelect ops=true) (F:gE qs oi.op<=1)
  {S:Nat->Bool} (z:∀j oj,ops[j]? = some oj->j≠i->(∀e∈oj.after,Region.binds .any e=true->S e.on=true)->S j=true) :
  ∀(fuel:Nat) (listed:Array Bool) (a:Act) (h:bJ),
   (∀j,listed.getD j false=true->S j=true) ->
   (∀j oj,ops[j]? = some oj->S j=true->j≠i->listed.getD j true=false->(gE qs oj.op<=1\/gE qs oj.op=3)/\oi.apart ops oj=true) ->
   i∈Region.ready .any ops listed->(∀q,X h q->ft P ops c q oi v a) ->
   jA P ops c qs X QN fuel (listed.setIfInBounds i true) (a.put oi.dst v) h->jA P ops c qs X QN (fuel+1) listed a h:=by
 have p:=Region.noSelect_spec W
 intro fuel
 induction fuel with
 | zero =>
  intro listed a h _ _ K hy H;refine⟨fun h=>(by rw[h] at K;cases K),fun j hj oj g=>?_⟩
  by_cases l:j=i
  ·subst l;have:oj=oi:=Option.some.inj (g.symm.trans hi)
   subst this;rw[ai F];exact⟨oj,g,v,hy _ (V _),H⟩
  ·have:=ready_mono hj l
   rw[H.1] at this;cases this
 | succ fuel ih =>
  intro listed a h hS O K hy H;refine⟨fun h=>(by rw[h] at K;cases K),fun j hj oj g=>?_⟩
  by_cases l:j=i
  ·subst l;have:oj=oi:=Option.some.inj (g.symm.trans hi)
   subst this;rw[ai F];exact⟨oj,g,v,hy _ (V _),H⟩
  ·have U:=H.2 j (ready_mono hj l) oj g
   obtain⟨B,r,ad,am⟩:=mem_ready.1 hj;have:r=oj:=Option.some.inj (ad.symm.trans g)
   subst this;have M:S j=true:=z j r g l fun e he hb=>hS _ (am e he hb)
   obtain⟨a4,C⟩:=O j r g M l B;rw[Array.setIfInBounds_comm _ _ (Ne.symm l)] at U;have ab:∀k,(listed.setIfInBounds j true).getD k false=true->S k=true:=by
    intro k hk;by_cases t:j=k
    ·subst t;exact M
    ·rw[getD_set_ne false t] at hk;exact hS k hk
   have I:∀k ok,ops[k]? = some ok->S k=true->k≠i->(listed.setIfInBounds j true).getD k true=false->(gE qs ok.op<=1\/gE qs ok.op=3)/\oi.apart ops ok=true:=by
    intro k ok hk a5 a0 al;refine O k ok hk a5 a0 ?_
    by_cases t:j=k
    ·subst t;exact B
    ·rw[getD_set_ne true t] at al;exact al
   split
   ·rename_i hc0
    rw[ai hc0] at U;have h2:=rl g C (fun cs b=>p i oi cs b hi) (fun cs b=>p j r cs b g) (Y:=fun a=>∀q,X h q->ft P ops c q oi v a) (fun a a' y e w q hx=>(y q hx).of_same e w) hy U
    obtain⟨o,ho,u,a3,J,hK⟩:=h2;exact⟨o,ho,u,a3,ih _ _ h ab I (ready_mono K (Ne.symm l)) J hK⟩
   ·rename_i hc0
    rw[ah hc0] at U;have aw:gE qs r.op=3:=a4.resolve_left hc0
    intro w hc;refine wpOp_mono (fun a' w' h3=>?_) (AO aw g C (fun cs b=>p i oi cs b hi) (fun cs b=>p j r cs b g) (Y:=fun a=>∀q,X h q->ft P ops c q oi v a) (fun a a' y e w q hx=>(y q hx).of_same e w) hy (U w hc))
    obtain⟨J,q,a2,hx,hK⟩:=h3;exact⟨q,a2,hx,ih _ _ q ab I (ready_mono K (Ne.symm l)) (fun A ax=>J A (a1 _ _ _ (hx aw) ax)) hK⟩
def qy (P:Program) (ops:Array Oper) (c:World) (qs:List FuncId) (X:bJ->bJ->Prop) (QN:Act->bJ->Prop):List Nat->Act->bJ->Prop
 | [],a,h=>QN a h
 | i::rest,a,h=>∃o,ops[i]? = some o /\
  if gE qs o.op=0 then ∃v,Yields P ops o v a/\qy P ops c qs X QN rest (a.put o.dst v) h
  else if gE qs o.op=1 then ∃v,(∀g,X h g->ft P ops c g o v a)/\qy P ops c qs X QN rest (a.put o.dst v) h
  else ∀w,At c h w->wpOp P ops jf i (fun a' w'=>∃g,At c g w'/\(gE qs o.op=3->X h g)/\qy P ops c qs X QN rest a' g) a w
theorem v8 (t:∀h,X h h) {id:Nat} {QN:Act->bJ->Prop} {Q:Exit->Act->World->Prop} {a:Act} {h:bJ} {w:World}
  (hQ:∀a h w,At c h w->QN a h->Q .normal a w) (p:At c h w) (g:qy P ops c qs X QN (List.range ops.size) a h) :
  (Code.region id ops false).wp P Q a w:=by
 refine wp_region ?_
 generalize List.range ops.size=l at g
 induction l generalizing a h w with
 | nil=>exact hQ _ _ _ p g
 | cons i rest r =>
  obtain⟨o,u,g⟩:=g;rw[wpOps_cons];split at g
  ·obtain⟨v,q,k⟩:=g;exact q.wpOp u (r p k)
  ·split at g
   ·obtain⟨v,q,k⟩:=g;exact mf p (fun a' w' j y=>r j y) ⟨o,u,v,q _ (t _),k⟩
   ·exact nT (wpOp_mono (fun a' w' ⟨y,j,_,k⟩=>r j k) (g w p))
structure rm where
 d:Option Nat
 L:List Nat
 pm:Nat
 c:Nat
def fU (o:Oper):Nat:=o.after.toList.foldl (fun m e=>if Region.binds .any e then m|||1<<<e.on else m) 0
def dI (ops:Array Oper) (qs:List FuncId) (o:Oper):rm:=⟨o.dst,o.looksAt ops,fU o,gE qs o.op⟩
def JL:Option Nat->List Nat->Bool
 | none,_=>false
 | some d,l=>l.any fun x=>Nat.beq x d
def Kl:Option Nat->Option Nat->Bool
 | some d,some e=>Nat.beq d e
 | _,_=>false
def uK (x y:rm) (i:Nat):Bool:=y.pm.testBit i || !(JL x.d y.L||Kl x.d y.d||JL y.d x.L)
def fV:Nat->List rm->Bool
 | _,[]=>true
 | i,x::ys=>ys.all (fun y=>uK x y i)&&fV (i+1) ys
def sub (a b:Nat):Bool:=Nat.beq (a&&&b) a
def Ct (i:Nat):Nat->List rm->Nat->Nat
 | _,[],S=>S
 | j,e::r,S=>Ct i (j+1) r (bif !Nat.beq j i&&sub e.pm S then S|||1<<<j else S)
def oG (i S:Nat):Nat->List rm->Bool
 | _,[]=>true
 | j,e::r=>(Nat.beq j i || !sub e.pm S||S.testBit j)&&oG i S (j+1) r
def EW (S g:Nat):Nat->List rm->Bool
 | _,[]=>true
 | j,e::r=>(!S.testBit j||g.testBit j||(Nat.ble e.c 1||Nat.beq e.c 3))&&EW S g (j+1) r
def tJ (i g:Nat):Nat->List rm->Bool
 | _,[]=>true
 | j,e::r=>(Nat.beq j i||g.testBit j || !sub e.pm g)&&tJ i g (j+1) r
def GR (E:List rm) (g i:Nat):Bool:=match E[i]? with
 | none=>false
 | some e=>!g.testBit i&&sub e.pm g&&match e.c with
  | 0=>true
  | 1 =>
   let S:=Ct i 0 E g
   oG i S 0 E&&sub g S&&EW S g 0 E
  | _=>tJ i g 0 E
def rN (E:List rm):List Nat->Nat->Bool
 | [],mask=>Nat.beq mask (2^E.length-1)
 | i::ord,mask=>GR E mask i&&rN E ord (mask|||1<<<i)
def pI (l:List Oper) (qs:List FuncId) (g:List Nat):Bool :=
 let E:=l.map (dI l.toArray qs)
 Region.noSelect l.toArray&&Nat.beq g.length l.length&&fV 0 E&&rN E g 0
theorem ey (m i j:Nat):(m|||1<<<i).testBit j=(m.testBit j||decide (i=j)):=by
 rw[Nat.testBit_or,Nat.one_shiftLeft,Nat.testBit_two_pow]
theorem dp (o:Oper) (k:Nat):(fU o).testBit k=true ↔ ∃e∈o.after,Region.binds .any e=true/\e.on=k:=by
 unfold fU
 have key:∀(l:List Edge) (m:Nat),(l.foldl (fun m e=>if Region.binds .any e then m|||1<<<e.on else m) m).testBit k=true ↔ m.testBit k=true\/∃e∈l,Region.binds .any e=true/\e.on=k:=by
  intro l
  induction l with
  | nil=>intro m;simp
  | cons e l g =>
   intro m;rw[List.foldl_cons,g];by_cases hb:Region.binds .any e=true
   ·rw[ai hb,ey];simp only[Bool.or_eq_true,decide_eq_true_eq,List.mem_cons,exists_eq_or_imp,hb,true_and]
    constructor
    ·rintro((h|h)|h)
     ·exact .inl h
     ·exact .inr (.inl h)
     ·exact .inr (.inr h)
    ·rintro(h|h|h)
     ·exact .inl (.inl h)
     ·exact .inl (.inr h)
     ·exact .inr h
   ·rw[ah hb];simp only[List.mem_cons,exists_eq_or_imp,hb,Bool.false_eq_true,false_and,false_or]
 rw[key]
 simp
theorem fN {a b:Nat}:sub a b=true ↔ ∀k,a.testBit k=true->b.testBit k=true:=by
 unfold sub
 constructor
 ·intro h k g;have:=congrArg (fun x=>Nat.testBit x k) (Nat.eq_of_beq_eq_true h)
  simp only[Nat.testBit_and,g,Bool.true_and] at this
  exact this
 ·intro h;have:a&&&b=a:=by
   apply Nat.eq_of_testBit_eq
   intro k;rw[Nat.testBit_and]
   cases ha:a.testBit k with
   | false=>rfl
   | true=>simp[h k ha]
  rw[this];exact Nat.beq_refl a
theorem zg {d:Nat} {l:List Nat}:JL (some d) l=true ↔ d∈l:=by
 simp only[JL,List.any_eq_true]
 constructor
 ·rintro⟨x,hx,h⟩;rw[<- Nat.eq_of_beq_eq_true h];exact hx
 ·intro h;exact⟨d,h,Nat.beq_refl d⟩
theorem jp {l:List Oper} {x y:Oper} {i:Nat} (h:uK (dI l.toArray qs x) (dI l.toArray qs y) i=true):(fU y).testBit i=true\/(x.apart l.toArray y=true/\y.apart l.toArray x=true):=by
 unfold uK at h
 rw[Bool.or_eq_true] at h
 rcases h with h|h
 ·exact .inl h
 ·refine .inr ?_
  simp only[dI,Bool.not_eq_true',Bool.or_eq_false_iff] at h
  obtain⟨⟨r,q⟩,t⟩:=h;have k:∀d,x.dst=some d->d ∉ y.looksAt l.toArray:=fun d hd g=>by rw[hd,zg.2 g] at r;cases r
  have u:∀d,x.dst=some d->y.dst≠some d:=fun d hd g=>by rw[hd,g] at q;simp[Kl] at q
  have p:∀d,y.dst=some d->d ∉ x.looksAt l.toArray:=fun d hd g=>by rw[hd,zg.2 g] at t;cases t
  constructor
  ·unfold Oper.apart
   cases hx:x.dst with
   | none=>cases hy:y.dst with
    | none=>rfl
    | some e=>simpa using p e hy
   | some d=>cases hy:y.dst with
    | none=>simpa using k d hx
    | some e =>
     have j:=u d hx
     rw[hy] at j;simp only[Bool.and_eq_true,Bool.not_eq_true',List.contains_eq_mem,decide_eq_false_iff_not,bne_iff_ne,ne_eq]
     exact⟨⟨k d hx,j⟩,p e hy⟩
  ·unfold Oper.apart
   cases hy:y.dst with
   | none=>cases hx:x.dst with
    | none=>rfl
    | some d=>simpa using k d hx
   | some e=>cases hx:x.dst with
    | none=>simpa using p e hy
    | some d =>
     have j:=u d hx
     rw[hy] at j;simp only[Bool.and_eq_true,Bool.not_eq_true',List.contains_eq_mem,decide_eq_false_iff_not,bne_iff_ne,ne_eq]
     exact⟨⟨p e hy,fun z=>j z.symm⟩,k d hx⟩
theorem gZ {l:List rm}:∀(k:Nat),fV k l=true->∀i j x y,l[i]? = some x->l[j]? = some y->i<j->uK x y (k+i)=true:=by
 induction l with
 | nil=>intro k _ i j x y hx;simp at hx
 | cons e l q =>
  intro k h i j x y hx g r;simp only[fV,Bool.and_eq_true,List.all_eq_true] at h
  cases i with
  | zero =>
   obtain⟨j,rfl⟩:∃p,j=p+1:=⟨j-1,aa⟩
   simp only[List.getElem?_cons_zero,Option.some.injEq,List.getElem?_cons_succ] at hx g
   subst hx;exact h.1 y (List.mem_of_getElem? g)
  | succ i =>
   obtain⟨j,rfl⟩:∃p,j=p+1:=⟨j-1,aa⟩
   simp only[List.getElem?_cons_succ] at hx g
   have:=q (k+1) h.2 i j x y hx g aa
   rwa[show k+1+i=k+(i+1) from aa] at this
theorem oH {i S:Nat} {E:List rm}:∀(k:Nat),oG i S k E=true->∀j e,E[j]? = some e->k+j≠i->sub e.pm S=true->S.testBit (k+j)=true:=by
 induction E with
 | nil=>intro k _ j e g;simp at g
 | cons x E q =>
  intro k h j e g p hs;simp only[oG,Bool.and_eq_true,Bool.or_eq_true,Bool.not_eq_true'] at h
  cases j with
  | zero =>
   simp only[List.getElem?_cons_zero,Option.some.injEq] at g
   subst g;rcases h.1 with(l|l)|l
   ·exact absurd (Nat.eq_of_beq_eq_true l) p
   ·rw[hs] at l;cases l
   ·exact l
  | succ j =>
   simp only[List.getElem?_cons_succ] at g
   have:=q (k+1) h.2 j e g aa hs
   rwa[show k+1+j=k+(j+1) from aa] at this
theorem AQ {S g:Nat} {E:List rm}:∀(k:Nat),EW S g k E=true->∀j e,E[j]? = some e->S.testBit (k+j)=true->g.testBit (k+j)=false->e.c<=1\/e.c=3:=by
 induction E with
 | nil=>intro k _ j e l;simp at l
 | cons x E q =>
  intro k h j e l hs p;simp only[EW,Bool.and_eq_true,Bool.or_eq_true,Bool.not_eq_true'] at h
  cases j with
  | zero =>
   simp only[List.getElem?_cons_zero,Option.some.injEq] at l
   subst l;rcases h.1 with(i|i)|i
   ·rw[Nat.add_zero] at hs;rw[hs] at i;cases i
   ·rw[Nat.add_zero] at p;rw[p] at i;cases i
   ·exact i.imp Nat.le_of_ble_eq_true Nat.eq_of_beq_eq_true
  | succ j =>
   simp only[List.getElem?_cons_succ] at l
   rw[show k+(j+1)=k+1+j from aa] at hs p;exact q (k+1) h.2 j e l hs p
theorem rO {i g:Nat} {E:List rm}:∀(k:Nat),tJ i g k E=true->∀j e,E[j]? = some e->g.testBit (k+j)=false->sub e.pm g=true->k+j=i:=by
 induction E with
 | nil=>intro k _ j e p;simp at p
 | cons x E r =>
  intro k h j e p q hs;simp only[tJ,Bool.and_eq_true,Bool.or_eq_true,Bool.not_eq_true'] at h
  cases j with
  | zero =>
   simp only[List.getElem?_cons_zero,Option.some.injEq] at p
   subst p;rcases h.1 with(l|l)|l
   ·exact(Nat.eq_of_beq_eq_true l)
   ·rw[Nat.add_zero] at q;rw[q] at l;cases l
   ·rw[hs] at l;cases l
  | succ j =>
   simp only[List.getElem?_cons_succ] at p
   rw[show k+(j+1)=k+1+j from aa] at q ⊢;exact r (k+1) h.2 j e p q hs
def nD (n g:Nat) (listed:Array Bool):Prop:=listed.size=n/\∀j,listed.getD j false=g.testBit j
theorem nD.unlisted {n g:Nat} {listed:Array Bool} (s:nD n g listed) {j:Nat}:listed.getD j true=false ↔ (j<n/\g.testBit j=false):=by
 rw[<- s.2 j,<- s.1]
 rcases Nat.lt_or_ge j listed.size with h|h
 ·simp[h]
 ·simp[Array.getElem?_eq_none h];omega
theorem nD.set {n g:Nat} {listed:Array Bool} (s:nD n g listed) {i:Nat} (hi:i<n):nD n (g|||1<<<i) (listed.setIfInBounds i true):=by
 refine⟨by simp[s.1],fun j=>?_⟩
 rw[ey,<- s.2 j]
 by_cases h:i=j
 ·subst h;have:i<listed.size:=by rw[s.1];exact hi
  simp[this]
 ·rw[getD_set_ne false h];simp[h]
theorem yd {QN:Act->bJ->Prop} {i:Nat} {oi:Oper} (hi:ops[i]? = some oi) (g:¬gE qs oi.op<=1) {fuel:Nat} {listed:Array Bool} {a:Act} {h:bJ}
  (hr0:i∈Region.ready .any ops listed) (p:∀j∈Region.ready .any ops listed,j=i)
  (H:∀w,At c h w->wpOp P ops jf i (fun a' w'=>∃l,At c l w'/\(gE qs oi.op=3->X h l)/\jA P ops c qs X QN fuel (listed.setIfInBounds i true) a' l) a w) :
  jA P ops c qs X QN (fuel+1) listed a h:=by
 refine⟨fun h0=>(by rw[h0] at hr0;cases hr0),fun j q r k=>?_⟩
 have:j=i:=p j q
 subst this
 have:r=oi:=Option.some.inj (k.symm.trans hi)
 subst this
 rw[ah g]
 exact H
theorem qz (a1:∀h,X h h) (a8:∀h h' a5,X h h'->X h' a5->X h a5) {l:List Oper} {QN:Act->bJ->Prop} (J:Region.noSelect l.toArray=true) (aw:fV 0 (l.map (dI l.toArray qs))=true):∀(ax:List Nat) (g:Nat) (listed:Array Bool) (a:Act) (h:bJ),
  nD l.length g listed->rN (l.map (dI l.toArray qs)) ax g=true->qy P l.toArray c qs X QN ax a h->jA P l.toArray c qs X QN ax.length listed a h
 | [],g,listed,a,h,hs,hB,M=>by
  refine⟨?_,M⟩
  simp only[rN,List.length_map] at hB
  have hm:=Nat.eq_of_beq_eq_true hB
  cases hr:Region.ready .any l.toArray listed with
  | nil=>rfl
  | cons j r =>
   have p:j∈Region.ready .any l.toArray listed:=by rw[hr];exact List.mem_cons_self
   obtain⟨u,_⟩:=mem_ready.1 p;obtain⟨h2,h3⟩:=hs.unlisted.1 u;rw[hm,Nat.testBit_two_pow_sub_one] at h3;simp at h3;omega
 | i::rest,g,listed,a,h,hs,hB,M=>by
  simp only[rN,Bool.and_eq_true] at hB
  obtain⟨q,bt⟩:=hB;obtain⟨oi,hi,M⟩:=M;have O:l[i]? = some oi:=by simpa using hi
  have bo:i<l.length:=(List.getElem?_eq_some_iff.1 O).1
  have Y:∀j o,l[j]? = some o->(l.map (dI l.toArray qs))[j]? = some (dI l.toArray qs o):=fun j o p=>by rw[List.getElem?_map,p];rfl
  unfold GR at q;rw[Y i oi O] at q;simp only[Bool.and_eq_true,Bool.not_eq_true'] at q
  obtain⟨⟨bd,a2⟩,W⟩:=q;have z:∀j o,l[j]? = some o->(j∈Region.ready .any l.toArray listed ↔ g.testBit j=false/\sub (fU o) g=true):=by
   intro j o p;rw[mem_ready];have be:j<l.length:=(List.getElem?_eq_some_iff.1 p).1
   constructor
   ·rintro⟨u,o',bq,h2⟩;have:o'=o:=by
     have:l[j]? = some o':=by simpa using bq
     exact Option.some.inj (this.symm.trans p)
    subst this;refine⟨(hs.unlisted.1 u).2,fN.2 fun k hk=>?_⟩
    obtain⟨e,V,hb,rfl⟩:=(dp o' k).1 hk
    rw[<- hs.2];exact h2 e V hb
   ·rintro⟨u,h2⟩;refine⟨hs.unlisted.2 ⟨be,u⟩,o,by simpa using p,fun e V hb=>?_⟩
    rw[hs.2];exact fN.1 h2 _ ((dp o e.on).2 ⟨e,V,hb,rfl⟩)
  have al:i∈Region.ready .any l.toArray listed:=(z i oi O).2 ⟨bd,a2⟩
  have ih:∀(a:Act) (h:bJ),qy P l.toArray c qs X QN rest a h->jA P l.toArray c qs X QN rest.length (listed.setIfInBounds i true) a h :=
   fun a h hw=>qz a1 a8 J aw rest _ _ a h (hs.set bo) bt hw
  have A:∀j oj,l[j]? = some oj->j≠i->g.testBit j=false->(∀e∈oj.after,Region.binds .any e=true->e.on≠i)->oi.apart l.toArray oj=true:=by
   intro j oj p B t am;rcases Nat.lt_or_gt_of_ne B with bb|br
   ·have hp:=gZ 0 aw j i _ _ (Y j oj p) (Y i oi O) bb
    rw[Nat.zero_add] at hp;rcases jp hp with u|u
    ·exfalso
     have:=fN.1 a2 j u
     rw[t] at this;cases this
    ·exact u.2
   ·have hp:=gZ 0 aw i j _ _ (Y i oi O) (Y j oj p) br
    rw[Nat.zero_add] at hp;rcases jp hp with u|u
    ·exfalso
     obtain⟨e,V,hb,ad⟩:=(dp oj i).1 u
     exact am e V hb ad
    ·exact u.1
  by_cases h0:gE qs oi.op=0
  ·rw[ai h0] at M;obtain⟨v,K,hK⟩:=M;refine AN hi J aa rest.length listed a h (fun j oj p B I am=>?_) al K (ih _ h hK)
   exact A j oj (by simpa using p) B (hs.unlisted.1 I).2 am
  ·rw[ah h0] at M;by_cases u:gE qs oi.op=1
   ·rw[ai u] at M;obtain⟨v,K,hK⟩:=M;rw[show(dI l.toArray qs oi).c=gE qs oi.op from rfl,u] at W;simp only[Bool.and_eq_true] at W
    obtain⟨⟨a6,H⟩,a3⟩:=W;refine AP a1 a8 hi J aa (S:=fun j=>(Ct i 0 (l.map (dI l.toArray qs)) g).testBit j) ?_ rest.length listed a h ?_ ?_ al K (ih _ h hK)
    ·intro j oj p B a7;have:=oH 0 a6 j _ (Y j oj (by simpa using p)) aa (fN.2 fun k hk=>by
      obtain⟨e,V,hb,rfl⟩:=(dp oj k).1 hk
      exact a7 e V hb)
     simpa using this
    ·intro j p;rw[hs.2] at p;exact fN.1 H j p
    ·intro j oj p hS B I;have F:l[j]? = some oj:=by simpa using p
     have t:=(hs.unlisted.1 I).2
     refine⟨AQ 0 a3 j _ (Y j oj F) (by simpa using hS) (by simpa using t),?_⟩
     refine A j oj F B t fun e V hb ad=>?_
     have bu:∀k,(Ct i 0 (l.map (dI l.toArray qs)) g).testBit k=true->g.testBit k=true\/∃o,l[k]? = some o/\k≠i/\∃S',sub (fU o) S'=true/\S'.testBit i=g.testBit i:=by
      have key:∀(E:List rm) (k S:Nat),(∀x,E[x]? = (l.map (dI l.toArray qs))[k+x]?)->S.testBit i=g.testBit i->∀y,(Ct i k E S).testBit y=true->S.testBit y=true\/∃o,l[y]? = some o/\y≠i/\∃S',sub (fU o) S'=true/\S'.testBit i=g.testBit i:=by
       intro E
       induction E with
       | nil=>intro k S _ _ y K;exact .inl K
       | cons e E a9 =>
        intro k S hx ab y K;simp only[Ct] at K
        have C:=hx 0
        simp only[List.getElem?_cons_zero,Nat.add_zero,List.getElem?_map] at C
        have ba:∀x,E[x]? = (l.map (dI l.toArray qs))[k+1+x]? := fun x=>by
         have:=hx (x+1)
         simp only[List.getElem?_cons_succ] at this
         rw[this,show k+(x+1)=k+1+x from aa]
        cases hcond:(!Nat.beq k i&&sub e.pm S) with
        | false =>
         rw[hcond] at K;exact a9 (k+1) S ba ab y K
        | true =>
         rw[hcond] at K;simp only[Bool.and_eq_true,Bool.not_eq_true'] at hcond
         have a4:k≠i:=fun e=>by rw[e,Nat.beq_refl] at hcond;cases hcond.1
         have bc:(S|||1<<<k).testBit i=g.testBit i:=by rw[ey,ab];simp[a4]
         rcases a9 (k+1) _ ba bc y K with U|U
         ·rw[ey,Bool.or_eq_true,decide_eq_true_eq] at U;rcases U with U|U
          ·exact .inl U
          ·subst U
           right
           cases hlk:l[k]? with
           | none=>rw[hlk] at C;cases C
           | some o =>
            rw[hlk] at C;simp only[Option.map_some,Option.some.injEq] at C
            subst C;exact⟨o,rfl,a4,S,hcond.2,ab⟩
         ·exact .inr U
      exact fun k hk=>key _ 0 g (fun x=>by rw[Nat.zero_add]) rfl k hk
     rcases bu j hS with h6|⟨o,ho,_,S',bs,bm⟩
     ·rw[t] at h6;cases h6
     ·have:o=oj:=Option.some.inj (ho.symm.trans F)
      subst this;have h7:=fN.1 bs i ((dp o i).2 ⟨e,V,hb,ad⟩)
      rw[bm,bd] at h7;cases h7
   ·rw[ah u] at M;have H:¬gE qs oi.op<=1:=aa
    have a0:tJ i g 0 (l.map (dI l.toArray qs))=true:=by
     revert W
     rw[show(dI l.toArray qs oi).c=gE qs oi.op from rfl];split
     ·omega
     ·omega
     ·exact fun h=>h
    refine yd hi H al (fun j p=>?_) fun w hc=>wpOp_mono (fun a' w' ⟨h',hc',hx,hK⟩=>⟨h',hc',hx,ih a' h' hK⟩) (M w hc)
    obtain⟨h3,o,ho,_⟩:=mem_ready.1 p;have F:l[j]? = some o:=by simpa using ho
    obtain⟨h4,U⟩:=(z j o F).1 p
    have:=rO 0 a0 j _ (Y j o F) (by simpa using h4) U
    omega
theorem qA (t:∀h,X h h) (q:∀h u p,X h u->X u p->X h p) {id:Nat} {l:List Oper} {QN:Act->bJ->Prop} {Q:Exit->Act->World->Prop} {a:Act} {h:bJ} {w:World} (z:P.follows .mixedOrders=true) {i:List Nat}
  (dE:pI l qs i=true) (hQ:∀a h w,At c h w->QN a h->Q .normal a w) (A:At c h w) (y:qy P l.toArray c qs X QN i a h) :
  (Code.region id l.toArray true).wp P Q a w:=by
 simp only[pI,Bool.and_eq_true] at dE
 obtain⟨⟨⟨k,hlen⟩,r⟩,g⟩:=dE
 refine wp_region_any z ?_
 have:=qz (P:=P) (c:=c) (QN:=QN) t q k r i 0 (Array.replicate l.length false) a h ⟨by simp,fun j=>by
  rw[Nat.zero_testBit];rcases Nat.lt_or_ge j l.length with h|h<;>simp[h]⟩ g y
 rw[Nat.eq_of_beq_eq_true hlen] at this
 rw[List.size_toArray]
 exact nU hQ _ _ a h _ (A.drew _) this
end
end Go.Eng
