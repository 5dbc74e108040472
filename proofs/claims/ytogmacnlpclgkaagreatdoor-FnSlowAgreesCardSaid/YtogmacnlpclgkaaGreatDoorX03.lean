/- Texts 03. -/
import Derived.Test.YtogmacnlpclgkaaGreatDoorX02
set_option linter.all false
namespace Go.Eng
open Go
def dJ:Value->Bool
 | .agg _|.tuple _=>false
 | _=>true
def cQ (g:Nat->Value) (at_ k:Nat) (src:Nat->Value):Nat->Value:=fun i=>bif Nat.ble at_ i&&Nat.blt i (at_+k) then src (i-at_) else g i
def ct (l:List Value):Nat->Value:=fun i=>l.getD i undef
def ej:Nat->(Nat->Value)->List Value
 | 0,_=>[]
 | k+1,g=>g 0::ej k fun i=>g (i+1)
theorem bH (g:Nat->Value) (a k:Nat) (src:Nat->Value) (i:Nat) (l:a<=i) (h:i<a+k):cQ g a k src i=src (i-a):=by
 have j:Nat.ble a i=true:=by rw[Nat.ble_eq];exact l
 have p:Nat.blt i (a+k)=true:=by simpa[Nat.blt_eq] using h
 simp[cQ,j,p]
theorem aP (g:Nat->Value) (a k:Nat) (src:Nat->Value) (i:Nat) (h:i<a\/a+k<=i):cQ g a k src i=g i:=by
 have e:(Nat.ble a i&&Nat.blt i (a+k))=false:=by
  rw[Bool.and_eq_false_iff];rcases h with h|h
  ·left;cases hb:Nat.ble a i with
   | false=>rfl
   | true=>have:=Nat.le_of_ble_eq_true hb;omega
  ·right;cases hb:Nat.blt i (a+k) with
   | false=>rfl
   | true =>
    have:i<a+k:=by simpa[Nat.blt_eq] using hb
    omega
 simp[cQ,e]
theorem eY (g:Nat->Value) (a:Nat) (src:Nat->Value):cQ g a 0 src=g:=by
 funext i;exact aP _ _ _ _ _ aa
theorem bM (k:Nat):∀g,(ej k g).length=k:=by
 induction k with
 | zero=>intro g;rfl
 | succ k h=>intro g;simp[ej,h]
theorem fF (k:Nat):∀g i,i<k->(ej k g)[i]? = some (g i):=by
 induction k with
 | zero=>intro g i h;omega
 | succ k j=>intro g i h;cases i with
  | zero=>rfl
  | succ i=>simp only[ej,List.getElem?_cons_succ];exact j _ i aa
theorem EZ (k:Nat) (g:Nat->Value):((List.range k).map g)=ej k g:=by
 apply List.ext_getElem?
 intro i
 by_cases h:i<k
 ·rw[fF k g i h];simp[h]
 ·simp[h,List.getElem?_eq_none (show(ej k g).length<=i by rw[bM];omega)]
theorem nV (k:Nat) (g:Nat->Value) (i:Nat) (h:i<k):ct (ej k g) i=g i:=by
 simp[ct,fF k g i h]
section
variable {P:Program}
theorem mS {w:World} {b:Nat} {B:bk} (h:w.heap[b]? = some B.obj) {o:Nat} (i:o<B.n):w.cell? ⟨b,o,none⟩=some (B.g o):=by
 unfold World.cell?
 simp only[h,bk.obj]
 simpa using B.get o i
theorem pL {w:World} {b:Nat} {B:bk} (h:w.heap[b]? = some B.obj) (hf:B.fr=(0,0)) (o:Nat):w.frozen? ⟨b,o,none⟩=false:=by
 unfold World.frozen?
 simp only[h,bk.obj,hf]
 simp
theorem dY {w:World} {b:Nat} {B:bk} (h:w.heap[b]? = some B.obj) {o k:Nat} (l:o+k<=B.n) :
  (loadCells ⟨b,o,none⟩ k).run P w = .ok (ej k fun i=>B.g (o+i)).toArray w:=by
 rw[run_loadCells w ⟨b,o,none⟩ k (fun i=>B.g (o+i)) (fun j p=>by rw[eU];exact mS h aa),EZ]
structure fX (h:bJ) (b:Nat) (B':bk) (h':bJ):Prop where
 size:h'.size=h.size
 new:h'[b]? = some B'.obj
 old:∀i,i≠b->h'[i]? = h[i]?
theorem mj {w:World} {b:Nat} {B:bk} (h:w.heap[b]? = some B.obj) (o:Nat) (v:Value) :
  fX w.heap b ⟨B.n,gK B.g o v,B.T,B.fr⟩ (w.setCell ⟨b,o,none⟩ v).heap:=by
 refine⟨by simp[World.setCell],?_,fun i hi=>by simp[World.setCell,Array.getElem?_modify,Ne.symm hi]⟩
 simp only[World.setCell,Array.getElem?_modify,if_true,h,Option.map_some,bk.obj]
 congr 2
 apply Array.ext_getElem?
 intro i
 rw[show(none:Option Nat).isSome=false from rfl]
 simp only[Bool.false_eq_true,if_false,Array.getElem?_setIfInBounds]
 by_cases hi:i<B.n
 ·have k:=bk.get ⟨B.n,gK B.g o v,B.T,B.fr⟩ i hi
  rw[k];by_cases j:o=i
  ·subst j;simp[cG,bk.size,hi]
  ·rw[ah j,bk.get B i hi];show some (B.g i)=some (gK B.g o v i);rw[aT _ _ _ _ (Ne.symm j)]
 ·have k:(bk.mk B.n (gK B.g o v) B.T B.fr).cells[i]? = none:=Array.getElem?_eq_none (by rw[bk.size];exact Nat.le_of_not_lt hi)
  rw[k];have l:=bk.size B
  split
  ·split
   ·omega
   ·rfl
  ·exact Array.getElem?_eq_none aa
theorem tK.at {m m':ao} {b:Nat} {B B':bk} (p:tK m b B B' m') (i:(m.map (·.1)).Nodup):∀q∈m',(q.1=b->q=(b,B'))/\(q.1≠b->q∈m):=by
 induction p with
 | here =>
  intro q g;simp only[List.map_cons,List.nodup_cons,List.mem_map,not_exists,not_and] at i
  rcases List.mem_cons.1 g with rfl|g
  ·exact⟨fun _=>rfl,fun h=>absurd rfl h⟩
  ·exact⟨fun h=>absurd h (i.1 q g),fun _=>List.mem_cons_of_mem _ g⟩
 | there p j =>
  intro q g;simp only[List.map_cons,List.nodup_cons,List.mem_map,not_exists,not_and] at i
  rcases List.mem_cons.1 g with rfl|g
  ·exact⟨fun h=>absurd h.symm (i.1 _ p.mem),fun _=>List.mem_cons_self⟩
  ·exact⟨(j i.2 q g).1,fun h=>List.mem_cons_of_mem _ ((j i.2 q g).2 h)⟩
theorem ed.turned {h0:dx} {G m m':ao} {h z:bJ} {b:Nat} {B B':bk} (o:ed h0 G m h) (hex:h0.ex=false) (p:tK m b B B' m') (t:fX h b B' z):ed h0 G m' z where
 ex:=fun e=>by rw[hex] at e;cases e
 size:=by rw[t.size];exact o.size
 nodup:=by
  have:=o.nodup
  simp only[List.map_append] at this ⊢
  rw[p.keys];exact this
 has:=by
  intro q r;have k:=o.nodup
  simp only[List.map_append,List.nodup_append] at k
  rcases List.mem_append.1 r with g|g
  ·have A:=p.at k.1 q g
   by_cases j:q.1=b
   ·rw[A.1 j];exact t.new
   ·rw[t.old _ j];exact o.has q (List.mem_append.2 (.inl (A.2 j)))
  ·have j:q.1≠b:=fun e=>k.2.2 b (List.mem_map.2 ⟨(b,B),p.mem,rfl⟩) b (List.mem_map.2 ⟨q,g,e⟩) rfl
   rw[t.old _ j];exact o.has q (List.mem_append.2 (.inr g))
 known:=by
  intro q r;have:q.1∈m.map (·.1):=by rw[<- p.keys];exact List.mem_map.2 ⟨q,r,rfl⟩
  obtain⟨F,g,e⟩:=List.mem_map.1 this;rw[<- e];exact o.known F g
 old:=by
  intro i hi y;have u:i≠b:=by
   intro C;subst C;rcases o.known _ p.mem with l|l
   ·exact y l
   ·simp only at l;omega
  rw[t.old i u];exact o.old i hi y
theorem ed.push {h0:dx} {G m:ao} {h:bJ} (o:ed h0 G m h) (hex:h0.ex=false) (B:bk):ed h0 G ((h.size,B)::m) (h.push B.obj) where
 ex:=fun e=>by rw[hex] at e;cases e
 size:=by have:=o.size;simp;omega
 has:=by
  intro q g;rcases List.mem_cons.1 g with rfl|g
  ·simp
  ·have:=o.lt g
   rw[Array.getElem?_push,ah aa];exact o.has q g
 nodup:=by
  simp only[List.cons_append,List.map_cons,List.nodup_cons,List.mem_map,not_exists,not_and]
  exact⟨fun q g e=>by have:=o.lt g;omega,o.nodup⟩
 known:=by
  intro q g;rcases List.mem_cons.1 g with rfl|g
  ·exact .inr o.size
  ·exact o.known q g
 old:=by
  intro i hi j;have:=o.size
  rw[Array.getElem?_push,ah aa];exact o.old i hi j
theorem ed.tail {h0:dx} {G m:ao} {h:bJ} {p:Nat×bk} (o:ed h0 G (p::m) h):ed h0 G m h :=
 ed.drop (junk:=[p]) (o.perm (by simpa using(List.perm_append_comm (l₁:=[p]) (l₂:=m))))
theorem dz.push {h0:dx} {G:ao} (hex:h0.ex=false) (B:bk) (h:bJ):dz h0 G h (h.push B.obj):=fun _ o=>ed.tail (o.push hex B)
theorem fX.trans {h g h2:bJ} {b:Nat} {k j:bk} (t:fX h b k g) (t':fX g b j h2):fX h b j h2 :=
 ⟨t'.size.trans t.size,t'.new,fun i hi=>(t'.old i hi).trans (t.old i hi)⟩
theorem fX.refl {h:bJ} {b:Nat} {B:bk} (hb:h[b]? = some B.obj):fX h b B h:=⟨rfl,hb,fun _ _=>rfl⟩
theorem fX.congr {h h':bJ} {b:Nat} {B B':bk} (t:fX h b B h') (e:B.obj=B'.obj):fX h b B' h':=⟨t.size,e▸t.new,t.old⟩
theorem At.setCell {c:World} {h:bJ} {w:World} (g:At c h w) (a:Addr) (v:Value):At c (w.setCell a v).heap (w.setCell a v):=⟨rfl,g.2.1,g.2.2.1,g.2.2.2⟩
theorem nM {w:World} {b:Nat} {B:bk} (h:w.heap[b]? = some B.obj) (hf:B.fr=(0,0)) {o:Nat} (g:o<B.n) {v:Value} (i:dJ v=true) (m:Mode) :
  (store ⟨b,o,none⟩ v m).run P w = .ok () (w.setCell ⟨b,o,none⟩ v):=by
 unfold store
 cases v<;>first|(cases i;done)|simp[Sem.run,mS h g,pL h hf]
theorem dK:∀(vs:List Value) (k:Nat) {w:World} {c:World} {b:Nat} {B:bk} (_:w.heap[b]? = some B.obj) (_:B.fr=(0,0)) {o:Nat} (_:o+k+vs.length<=B.n)
  (_:∀v∈vs,dJ v=true) (_:At c w.heap w),∃w',(storeCells ⟨b,o,none⟩ vs k).run P w = .ok () w'/\At c w'.heap w'/\fX w.heap b ⟨B.n,cQ B.g (o+k) vs.length (ct vs),B.T,B.fr⟩ w'.heap
 | [],k,w,c,b,B,h,hf,o,ho,hv,hc=>by
  refine⟨w,by simp[storeCells],hc,?_⟩
  rw[List.length_nil,eY];exact .refl h
 | v::vs,k,w,c,b,B,h,hf,o,ho,hv,hc=>by
  simp only[List.length_cons] at ho
  have l:(store (Addr.add ⟨b,o,none⟩ k) v).run P w = .ok () (w.setCell ⟨b,o+k,none⟩ v):=by
   rw[eU];exact nM h hf aa (hv v List.mem_cons_self) .plain
  have t:=mj h (o+k) v
  obtain⟨w',q,p,t'⟩:=dK vs (k+1) (B:=⟨B.n,gK B.g (o+k) v,B.T,B.fr⟩) t.new hf (o:=o) (by simp;omega) (fun u r=>hv u (List.mem_cons_of_mem _ r)) (hc.setCell _ _)
  refine⟨w',by simp[storeCells,l,q],p,(t.trans t').congr ?_⟩
  unfold bk.obj
  congr 1
  apply bk.cells_congr
  intro i hi;simp only[List.length_cons]
  by_cases l:i=o+k
  ·subst l;rw[aP _ _ _ _ _ aa,cG,bH _ _ _ _ _ aa aa];simp[ct]
  ·by_cases z:o+k<i/\i<o+k+(vs.length+1)
   ·rw[bH _ _ _ _ _ aa aa,bH _ _ _ _ _ aa aa];obtain⟨j,y⟩:∃j,i=o+k+1+j:=⟨i-(o+k+1),aa⟩
    subst y;rw[show o+k+1+j-(o+(k+1))=j from aa,show o+k+1+j-(o+k)=j+1 from aa];simp[ct]
   ·rw[aP _ _ _ _ _ aa,aP _ _ _ _ _ aa,aT _ _ _ _ l]
end
end Go.Eng
namespace Go.Eng
open Go
section
variable {P:Program} [ty:bA P] {G:ao} {qs:List FuncId} {c:World} {n:Nat} {h0:dx} {ops:Array Oper} {Q:Fr->ao->Prop} {rest:List Oper} {f:Fr} {m:ao}
variable {d:Option Tmp} {T T' tt:TypeId} {pos:String} {aft:Array Edge}
omit ty in
theorem ed.get {h:bJ} {w:World} (o:ed h0 G m h) (i:At c h w) {b:Nat} {B:bk} (g:ye m b B):w.heap[b]? = some B.obj:=by
 rw[i.1];exact o.has _ (List.mem_append.2 (.inl g.mem))
omit ty in
theorem ed.getG {h:bJ} {w:World} (o:ed h0 G m h) (i:At c h w) {b:Nat} {B:bk} (g:ye G b B):w.heap[b]? = some B.obj:=by
 rw[i.1];exact o.has _ (List.mem_append.2 (.inr g.mem))
theorem mT {x:Operand} {b o:Nat} {B:bk} {v:Value} (hx:ev f x = .pointer (some ⟨b,o,none⟩)) (q:lS (bA.tk P T)=true) (l:ye m b B) (r:Nat.blt o B.n=true) (p:B.g o=v)
  (hd:aE n d=true) (h:RO P G qs c n h0 ops Q rest (aV f d v) m):RO P G qs c n h0 ops Q (⟨d,.load T x,tt,pos,aft,none⟩::rest) f m:=by
 refine dX (aZ _) rfl hd (fun _ t w k j=>⟨w,j,.inl ?_⟩) (fun h=>by cases h) h
 have i:o<B.n:=by simpa[Nat.blt_eq] using r
 simp[execOp,hx,Instr.loadAt,Instr.sureAddr,loadVar,gA q,mS (k.get j l) i,p]
theorem mn {x:Operand} {b o:Nat} {B:bk} {v:Value} (hx:ev f x = .pointer (some ⟨b,o,none⟩)) (q:lS (bA.tk P T)=true) (l:ye G b B) (r:Nat.blt o B.n=true) (p:B.g o=v)
  (hd:aE n d=true) (h:RO P G qs c n h0 ops Q rest (aV f d v) m):RO P G qs c n h0 ops Q (⟨d,.load T x,tt,pos,aft,none⟩::rest) f m:=by
 refine dX (aZ _) rfl hd (fun _ t w k j=>⟨w,j,.inl ?_⟩) (fun h=>by cases h) h
 have i:o<B.n:=by simpa[Nat.blt_eq] using r
 simp[execOp,hx,Instr.loadAt,Instr.sureAddr,loadVar,gA q,mS (k.getG j l) i,p]
theorem aF {x:Operand} {b o:Nat} {B:bk} {v:Value} (hx:ev f x = .pointer (some ⟨b,o,none⟩)) (k:lS (bA.tk P T)=true) (i:ye m b B) (l:o<B.n) (j:B.g o=v)
  (hd:aE n d=true) (h:RO P G qs c n h0 ops Q rest (aV f d v) m):RO P G qs c n h0 ops Q (⟨d,.load T x,tt,pos,aft,none⟩::rest) f m :=
 mT hx k i (by simpa[Nat.blt_eq] using l) j hd h
theorem AV {x:Operand} {b o:Nat} {B:bk} {v:Value} (hx:ev f x = .pointer (some ⟨b,o,none⟩)) (k:lS (bA.tk P T)=true) (i:ye G b B) (l:o<B.n) (j:B.g o=v)
  (hd:aE n d=true) (h:RO P G qs c n h0 ops Q rest (aV f d v) m):RO P G qs c n h0 ops Q (⟨d,.load T x,tt,pos,aft,none⟩::rest) f m :=
 mn hx k i (by simpa[Nat.blt_eq] using l) j hd h
def zj:TK->Bool
 | .st _|.arr _ _=>true
 | _=>false
theorem kv (h:zj (bA.tk P T)=true) (w:World):(isAgg T).run P w = .ok true w:=by
 unfold isAgg
 cases hk:bA.tk P T<;>rw[hk] at h<;>first|(cases h;done)|skip
 case arr k e=>simp[run_underlying (qC hk)]
 case st fs=>obtain⟨g,hf,_⟩:=v9 hk;simp[run_underlying hf]
theorem cz {x:Operand} {b o s:Nat} {B:bk} (hx:ev f x = .pointer (some ⟨b,o,none⟩)) (q:zj (bA.tk P T)=true) (hs:bA.sz P T=s+1) (p:ye m b B) (l:o+(s+1)<=B.n)
  (hd:aE n d=true) (h:RO P G qs c n h0 ops Q rest (aV f d (.agg (ej (s+1) fun i=>B.g (o+i)).toArray)) m):RO P G qs c n h0 ops Q (⟨d,.load T x,tt,pos,aft,none⟩::rest) f m:=by
 refine dX (aZ _) rfl hd (fun _ r w k j=>⟨w,j,.inl ?_⟩) (fun h=>by cases h) h
 simp[execOp,hx,Instr.loadAt,Instr.sureAddr,loadVar,kv q,bP hs aa,dY (k.get j p) l]
omit ty in
theorem oM {a:Act} {w w':World} {o:Oper} {K:Act->World->Prop} {Q:Exit->Act->World->Prop} (h:(execOp a.eval o).run P w = .ok .skip w') (g:K (a.put o.dst undef) w'):o.wp P a w K Q:=by
 unfold Oper.wp;rw[h];exact g
omit ty in
theorem cR {a:Act} {w w':World} {o:Oper} {v:Value} {K:Act->World->Prop} {Q:Exit->Act->World->Prop} (g:(execOp a.eval o).run P w = .ok (.value v) w') (h:K (a.put o.dst v) w'):o.wp P a w K Q:=by
 unfold Oper.wp;rw[g];exact h
theorem mp {x y:Operand} {b o:Nat} {B:bk} {v:Value} {m':ao} (hx:ev f x = .pointer (some ⟨b,o,none⟩)) (q:ev f y=v) (z:bA.sz P T=1) (p:dJ v=true)
  (l:tK m b B (B.st o v) m') (u:Nat.blt o B.n=true) (hf:B.fr=(0,0))
  (hex:h0.ex=false) (h:RO P G qs c n h0 ops Q rest f m'):RO P G qs c n h0 ops Q (⟨none,.store T x y,tt,pos,aft,none⟩::rest) f m:=by
 refine ku rfl rfl rfl fun A w k j a r=>?_
 have hb:w.heap[b]? = some B.obj:=by rw[j.1];exact k.has _ (List.mem_append.2 (.inl l.mem))
 have g:o<B.n:=by simpa[Nat.blt_eq] using u
 have i:v.cells=#[v]:=by cases v<;>first|(cases p;done)|rfl
 refine oM (w':=w.setCell ⟨b,o,none⟩ v) ?_ ⟨f,m',(w.setCell ⟨b,o,none⟩ v).heap,r,j.setCell _ _,?_,h⟩
 ·rw[r.eval];have:=nM (P:=P) hb hf g p .plain
  simp[execOp,hx,q,Instr.storeAt,Instr.sureAddr,storeVar,bP z aa,i,storeCells,eU,this]
 ·have t:=mj hb o v
  rw[j.1] at t;exact k.turned hex l t
theorem bD {x y:Operand} {b o:Nat} {B:bk} {v:Value} {m':ao} (hx:ev f x = .pointer (some ⟨b,o,none⟩)) (j:ev f y=v) (k:bA.sz P T=1) (i:dJ v=true)
  (g:tK m b B (B.st o v) m') (l:o<B.n) (hf:B.fr=(0,0))
  (hex:h0.ex=false) (h:RO P G qs c n h0 ops Q rest f m'):RO P G qs c n h0 ops Q (⟨none,.store T x y,tt,pos,aft,none⟩::rest) f m :=
 mp hx j k i g (by simpa[Nat.blt_eq] using l) hf hex h
theorem ak {x y:Operand} {b o s:Nat} {B:bk} {vs:List Value} {m':ao} (hx:ev f x = .pointer (some ⟨b,o,none⟩)) (p:ev f y = .agg vs.toArray) (z:bA.sz P T=s+1) (hl:vs.length=s+1) (u:∀v∈vs,dJ v=true)
  (l:tK m b B ⟨B.n,cQ B.g o (s+1) (ct vs),B.T,B.fr⟩ m') (C:o+(s+1)<=B.n) (hf:B.fr=(0,0))
  (hex:h0.ex=false) (h:RO P G qs c n h0 ops Q rest f m'):RO P G qs c n h0 ops Q (⟨none,.store T x y,tt,pos,aft,none⟩::rest) f m:=by
 refine ku rfl rfl rfl fun A w k j a r=>?_
 have hb:w.heap[b]? = some B.obj:=by rw[j.1];exact k.has _ (List.mem_append.2 (.inl l.mem))
 obtain⟨w',q,i,t⟩:=dK (P:=P) vs 0 hb hf (o:=o) aa u (c:=c) ⟨rfl,j.2⟩
 refine oM (w':=w') ?_ ⟨f,m',w'.heap,r,i,?_,h⟩
 ·rw[r.eval];simp[execOp,hx,p,Instr.storeAt,Instr.sureAddr,storeVar,bP z aa,Value.cells,hl,q]
 ·rw[j.1,hl] at t;exact k.turned hex l t
def dv (P:Program) (T:TypeId):Option (List Value):=(P.info? T).bind fun i=>i.zero.map fun z=>z.cells.toList
def aj (l:List Value) (T:TypeId):bk:=⟨l.length,ct l,T,(0,0)⟩
theorem mU (l:List Value) (T:TypeId):(aj l T).obj = .cells l.toArray T:=by
 unfold bk.obj aj
 congr 1
 apply Array.ext_getElem?
 intro i
 by_cases h:i<l.length
 ·rw[bk.get _ i h];simp[ct,h,List.getD]
 ·rw[Array.getElem?_eq_none (by rw[bk.size];exact Nat.le_of_not_lt h)];simp[h]
omit ty in
theorem aC {zs:List Value} (g:dv P T=some zs) (hd:aE n d=true) (hex:h0.ex=false) (h:∀b,h0.h.size<=b->RO P G qs c n h0 ops Q rest (aV f d (.pointer (some ⟨b,0,none⟩))) ((b,aj zs T)::m)) :
  RO P G qs c n h0 ops Q (⟨d,.alloc T,tt,pos,aft,none⟩::rest) f m:=by
 refine oL rfl rfl hd fun l w k j a r=>?_
 unfold dv at g
 simp only[Option.bind_eq_some_iff,Option.map_eq_some_iff] at g
 obtain⟨i,hi,z,g,rfl⟩:=g
 have hsz:=k.size
 refine cR (w':={ w with heap:=w.heap.push (aj z.cells.toList T).obj }) (v:=.pointer (some ⟨w.heap.size,0,none⟩)) ?_
  ⟨_,_,_,r.put hd _,⟨rfl,j.2⟩,?_,by rw[j.1];exact dz.push hex _ _,h w.heap.size (by rw[j.1];exact hsz)⟩
 ·rw[r.eval,mU];simp[execOp,Instr.alloc,zeroValue,typeInfo,hi,g,newVar,newRow]
 ·rw[j.1];exact k.push hex _
omit ty in
theorem kw {x:Operand} {v:Value} {vs:List Value} (hx:ev f x=v) (j:v.cells.toList=vs) (hd:aE n d=true) (hex:h0.ex=false) (h:∀b,h0.h.size<=b->RO P G qs c n h0 ops Q rest (aV f d (.pointer (some ⟨b,0,none⟩))) ((b,aj vs T)::m)) :
  RO P G qs c n h0 ops Q (⟨d,.box T x,tt,pos,aft,none⟩::rest) f m:=by
 subst j
 refine oL rfl rfl hd fun k w i g a r=>?_
 have hsz:=i.size
 refine cR (w':={ w with heap:=w.heap.push (aj v.cells.toList T).obj }) (v:=.pointer (some ⟨w.heap.size,0,none⟩)) ?_
  ⟨_,_,_,r.put hd _,⟨rfl,g.2⟩,?_,by rw[g.1];exact dz.push hex _ _,h w.heap.size (by rw[g.1];exact hsz)⟩
 ·rw[r.eval,mU];simp[execOp,hx,Instr.box,newVar,newRow]
 ·rw[g.1];exact i.push hex _
def sOff (o l s cap:Nat):Nat:=if cap=l then o else o+l*s
def dG (f:Fr) (x:Option Operand) (g:Int):Option Int:=match x with
 | none=>some g
 | some y=>match ev f y with|.int _ i=>some i|_=>none
omit ty in
theorem tO {k:IntKind} {i:Int} {y:Nat} {code:BoundsCode} (h0:0<=i) (g:i<=y) (w:World):(Instr.sliceBound (.int k i) y code).run P w = .ok i.toNat w:=by
 simp[Instr.sliceBound,asIntOf,h0,g]
omit ty in
theorem nW {lo hi:Option Operand} {b:Bool} {len cap:Nat} {l h:Int} (hl:dG f lo 0=some l) (g:dG f hi len=some h) (k:0<=l) (q:l<=h) (p:h<=cap) (w:World) :
  (Instr.sliceBounds b len cap (lo.map (ev f)) (hi.map (ev f)) none).run P w = .ok (l.toNat,h.toNat,cap) w:=by
 have i:(match hi.map (ev f) with|some v=>Instr.sliceBound v cap (if b=true then .sliceAcap else .sliceAlen)|none=>pure len:Sem Nat).run P w = .ok h.toNat w:=by
  unfold dG at g
  cases hi with
  | none=>simp at g;subst g;simp
  | some y =>
   simp only[Option.map_some] at g ⊢
   cases hy:ev f y<;>rw[hy] at g<;>first|(cases g;done)|(simp at g;subst g;exact tO aa p w)
 have j:(match lo.map (ev f) with|some v=>Instr.sliceBound v h.toNat .sliceB|none=>pure 0:Sem Nat).run P w = .ok l.toNat w:=by
  unfold dG at hl
  cases lo with
  | none=>simp at hl;subst hl;simp
  | some y =>
   simp only[Option.map_some] at hl ⊢
   cases hy:ev f y<;>rw[hy] at hl<;>first|(cases hl;done)|(simp at hl;subst hl;exact tO k aa w)
 unfold Instr.sliceBounds
 cases hi<;>cases lo<;>simp_all
theorem iU {x:Operand} {lo hi:Option Operand} {b o len cap e s:Nat} {l h:Int} (hx:ev f x = .slice (some ⟨b,o,none⟩) len cap) (p:bA.tk P T = .sl e) (hs:bA.sz P e=s+1)
  (hl:dG f lo 0=some l) (i:dG f hi len=some h) (q:0<=l) (g:l<=h) (j:h<=cap) (hd:aE n d=true)
  (k:RO P G qs c n h0 ops Q rest (aV f d (.slice (some ⟨b,sOff o l.toNat (s+1) cap,none⟩) (h.toNat-l.toNat) (cap-l.toNat))) m) :
  RO P G qs c n h0 ops Q (⟨d,.slice T x lo hi none,tt,pos,aft,none⟩::rest) f m:=by
 refine cY rfl rfl hd (fun w=>?_) k
 have hb:=nW (P:=P) (b:=true) hl i q g j w
 simp only[execOp,hx,Instr.sliceAt,Instr.slice,Sem.run_bind,run_underlying (eR p),Result.andThen_ok,Option.map_none,hb,bP hs aa,Sem.run_pure,sOff,Option.map_some,eU]
 split<;>rfl
theorem fY {x:Operand} {lo hi:Option Operand} {e s:Nat} (hx:ev f x = .slice none 0 0) (j:bA.tk P T = .sl e) (hs:bA.sz P e=s+1)
  (hl:dG f lo 0=some 0) (i:dG f hi 0=some 0) (hd:aE n d=true)
  (g:RO P G qs c n h0 ops Q rest (aV f d (.slice none 0 0)) m) :
  RO P G qs c n h0 ops Q (⟨d,.slice T x lo hi none,tt,pos,aft,none⟩::rest) f m:=by
 refine cY rfl rfl hd (fun w=>?_) g
 have hb:=nW (P:=P) (f:=f) (lo:=lo) (hi:=hi) (b:=true) (len:=0) (cap:=0) (l:=0) (h:=0) hl i aa aa aa w
 simp only[execOp,hx,Instr.sliceAt,Instr.slice,Sem.run_bind,run_underlying (eR j),Result.andThen_ok,Option.map_none,hb,bP hs aa,Sem.run_pure]
 rfl
theorem qE {x:Operand} {lo hi:Option Operand} {b o k e s:Nat} {l h:Int} (hx:ev f x = .pointer (some ⟨b,o,none⟩)) (q:bA.tk P T = .arr k e) (hs:bA.sz P e=s+1)
  (hl:dG f lo 0=some l) (i:dG f hi k=some h) (r:0<=l) (g:l<=h) (j:h<=k) (hd:aE n d=true)
  (p:RO P G qs c n h0 ops Q rest (aV f d (.slice (some ⟨b,sOff o l.toNat (s+1) k,none⟩) (h.toNat-l.toNat) (k-l.toNat))) m) :
  RO P G qs c n h0 ops Q (⟨d,.slice T x lo hi none,tt,pos,aft,none⟩::rest) f m:=by
 refine cY rfl rfl hd (fun w=>?_) p
 have hb:=nW (P:=P) (b:=false) hl i r g j w
 simp only[execOp,hx,Instr.sliceAt,Sem.run_bind,run_underlying (qC q),Result.andThen_ok,Option.map_none,hb,bP hs aa,Sem.run_pure,sOff,eU,Instr.sureAddr]
 split<;>rfl
omit ty in
theorem ls {x y:Operand} {k k':IntKind} {a b:Int} {g:Array TypeId} (hx:ev f x = .int k a) (i:ev f y = .int k' b) (hd:aE n d=true)
  (h:RO P G qs c n h0 ops Q rest (aV f d (.int k (if b<a then b else a))) m):RO P G qs c n h0 ops Q (⟨d,.call ⟨.builtin .min,#[x,y],g⟩,tt,pos,aft,none⟩::rest) f m :=
 cY rfl rfl hd (fun w=>by simp[execOp,resolve,invoke,builtin,Builtin.min_,Builtin.min2,hx,i]) h
omit ty in
theorem rW {x y:Operand} {k k':IntKind} {a b:Int} {g:Array TypeId} (hx:ev f x = .int k a) (i:ev f y = .int k' b) (hd:aE n d=true)
  (h:RO P G qs c n h0 ops Q rest (aV f d (.int k (if b>a then b else a))) m):RO P G qs c n h0 ops Q (⟨d,.call ⟨.builtin .max,#[x,y],g⟩,tt,pos,aft,none⟩::rest) f m :=
 cY rfl rfl hd (fun w=>by simp[execOp,resolve,invoke,builtin,Builtin.max_,Builtin.max2,hx,i]) h
omit ty in
theorem ed.call {h h':bJ} {pre m' fm:ao} (hex:h0.ex=false) (o:ed h0 G (pre++fm) h) (u:ed ⟨h,pre.keys,false⟩ G m' h'):ed h0 G (m'++fm) h':=by
 have l:=o.nodup
 simp only[List.map_append,List.nodup_append,List.mem_append,List.mem_map] at l
 have i:=u.nodup
 simp only[List.map_append,List.nodup_append,List.mem_map] at i
 have hpre:∀q∈fm,q.1 ∉ pre.keys:=by
  intro q g t;obtain⟨r,y,z⟩:=List.mem_map.1 t;exact l.1.2.2 r.1 ⟨r,y,rfl⟩ q.1 ⟨q,g,rfl⟩ z
 have A:∀q∈fm,∀p∈m',p.1≠q.1:=by
  intro q g p j e;rcases u.known p j with t|k
  ·exact hpre q g (e▸t)
  ·have:=o.lt (p:=q) (by simp[g]);simp only at k;omega
 refine⟨Nat.le_trans o.size u.size,?_,?_,?_,?_,fun e=>by rw[hex] at e;cases e⟩
 ·intro q g;simp only[List.mem_append] at g
  rcases g with(g|g)|g
  ·exact u.has q (by simp[g])
  ·have k:=o.lt (p:=q) (by simp[g])
   have:=u.old q.1 k (hpre q g)
   simp only at this
   rw[this];exact o.has q (by simp[g])
  ·exact u.has q (by simp[g])
 ·simp only[List.map_append,List.nodup_append,List.mem_append,List.mem_map]
  refine⟨⟨i.1,l.1.2.1,?_⟩,i.2.1,?_⟩
  ·rintro _ ⟨p,j,rfl⟩ _ ⟨q,g,rfl⟩;exact A q g p j
  ·rintro _ (⟨p,j,rfl⟩|⟨p,j,rfl⟩) _ ⟨q,g,rfl⟩
   ·exact i.2.2 _ ⟨p,j,rfl⟩ _ ⟨q,g,rfl⟩
   ·exact l.2.2 _ (.inr ⟨p,j,rfl⟩) _ ⟨q,g,rfl⟩
 ·intro p j;rcases List.mem_append.1 j with j|j
  ·rcases u.known p j with t|k
   ·obtain⟨r,y,z⟩:=List.mem_map.1 t;rw[<- z];exact o.known r (by simp[y])
   ·exact .inr (Nat.le_trans o.size k)
  ·exact o.known p (by simp[j])
 ·intro b hb C;have B:b<h.size:=Nat.lt_of_lt_of_le hb o.size
  have t:b ∉ pre.keys:=by
   intro t;obtain⟨r,y,z⟩:=List.mem_map.1 t;rcases o.known r (by simp[y]) with F|F
   ·exact C (z▸F)
   ·omega
  have:=u.old b B t
  simp only at this
  rw[this];exact o.old b hb C
theorem oN {x:Operand} {h:Array Operand} {g:Array TypeId} {fid:FuncId} {first captured vs:Array Value} (hf:ev f x = .func (.func fid) first captured) (hx:h.map (ev f)=vs) (hgo:bA.go P fid=true) (w:World) :
  (execOp (ev f) ⟨d,.call ⟨.value x,h,g⟩,tt,pos,aft,none⟩).run P w = .ok (.enter fid (first++vs++captured)) w:=by
 simp[execOp,resolve,Deferred.ofValue,hf,hx,invoke,oK hgo]
end
end Go.Eng
namespace Go.Eng
open Go
def tw:TK->Bool
 | .sl _=>true
 | _=>false
def k_ (M:ao) (s:Nat) (x:Value) (k:Nat) (src:Nat->Value):Prop :=
 (∃b o h B,x = .slice (some ⟨b,o,none⟩) k h/\(b,B)∈M/\o+k*s<=B.n/\src=fun j=>B.g (o+j))\/(k=0/\∃i h,x = .slice i 0 h)
theorem tP (g:Nat):∀(r c:Nat),Builtin.growBy g r c<=max c (2*g+768)
 | 0,c=>by simp[Builtin.growBy];omega
 | r+1,c=>by
  unfold Builtin.growBy
  split
  ·omega
  ·have:=tP g r (c+(c+768)/4)
   omega
theorem lT (g old:Nat) (h:old<g):Builtin.nextslicecap g old<=2*g+768:=by
 unfold Builtin.nextslicecap
 split
 ·omega
 ·split
  ·omega
  ·have:=tP g 4 old
   omega
section
variable {P:Program} [ty:bA P] {G:ao} {qs:List FuncId} {c:World} {n:Nat} {h0:dx} {ops:Array Oper} {Q:Fr->ao->Prop} {rest:List Oper} {f:Fr} {m:ao}
variable {d:Option Tmp} {T T' tt:TypeId} {pos:String} {aft:Array Edge}
omit ty in
theorem k_.run {w:World} {M:ao} {s k:Nat} {x:Value} {src:Nat->Value} (hs:k_ M s x k src) (l:∀p∈M,w.heap[p.1]? = some p.2.obj) :
  (Builtin.lenOf x).run P w = .ok k w/\∀j,j<=k->(Builtin.firstCells s j x).run P w = .ok (ej (j*s) src).toArray w:=by
 rcases hs with⟨b,o,q,B,rfl,h,r,rfl⟩|⟨rfl,i,q,rfl⟩
 ·refine⟨by simp[Builtin.lenOf],fun j g=>?_⟩
  have:j*s<=k*s:=Nat.mul_le_mul_right _ g
  simp only[Builtin.firstCells]
  exact dY (B:=B) (l _ h) aa
 ·refine⟨by simp[Builtin.lenOf],fun j g=>?_⟩
  have:j=0:=aa
  subst this
  cases i<;>simp[Builtin.firstCells,ej,loadCells,loadCellsFrom]
def bQ (zs:List Value):Nat->Value:=fun i=>zs.getD (i%zs.length) undef
theorem kx (zs:List Value) (k:Nat) (i:Nat) (h:i<k*zs.length):(Builtin.zeroCells zs.toArray k)[i]? = some (bQ zs i):=by
 have h0:0<zs.length:=Nat.pos_of_ne_zero fun e=>by rw[e] at h;omega
 have g:=Nat.mod_lt i h0
 simp[Builtin.zeroCells,h,bQ,List.getD,g]
theorem jB (zs:List Value) (k:Nat):(Builtin.zeroCells zs.toArray k).size=k*zs.length:=by simp[Builtin.zeroCells]
def gu:Option (Nat×Nat×bk)->Option Addr
 | none=>none
 | some (b,o,_)=>some ⟨b,o,none⟩
def jC:Option (Nat×Nat×bk)->Nat->Value
 | none=>fun _=>undef
 | some (_,o,B)=>fun j=>B.g (o+j)
def pM (h:bJ) (s len cap k:Nat) (src:Nat->Value):Option (Nat×Nat×bk)->Prop
 | none=>len=0/\cap=0
 | some (b,o,B)=>h[b]? = some B.obj/\B.fr=(0,0)/\o+cap*(s+1)<=B.n/\len<=cap/\(∀j,j<k*(s+1)->dJ (src j)=true)
def zk (h i:bJ) (s len k:Nat) (src:Nat->Value):Option (Nat×Nat×bk)->Prop
 | none=>i=h
 | some (b,o,B)=>fX h b ⟨B.n,cQ B.g (o+len*(s+1)) (k*(s+1)) src,B.T,B.fr⟩ i
theorem rX {w:World} {x y:Value} {ad:Array TypeId} {e s len cap k:Nat} {base:Option (Nat×Nat×bk)} {M:ao} {src:Nat->Value} {zs:List Value} (hT:ad[0]? = some T) (W:bA.tk P T = .sl e) (hs:bA.sz P e=s+1)
  (hz:dv P e=some zs) (bb:bA.by_ P e<=64) (C:∃T1,ad[1]? = some T1/\tw (bA.tk P T1)=true)
  (hx:x = .slice (gu base) len cap) (O:k_ M (s+1) y k src) (hM:∀p∈M,w.heap[p.1]? = some p.2.obj) (hk:len+k<=2^40) (hc:At c w.heap w)
  (ha:pM w.heap s len cap k src base) :
  ∃v w',(Builtin.append_ ad tt #[x,y]).run P w = .ok v w'/\At c w'.heap w' /\
   ((len+k<=cap/\v = .slice (gu base) (len+k) cap/\zk w.heap w'.heap s len k src base) \/
    (cap<len+k/\∃h,len+k<=h/\v = .slice (some ⟨w.heap.size,0,none⟩) (len+k) h /\
     ∃B:bk,w'.heap=w.heap.push B.obj/\B.fr=(0,0)/\B.n=h*(s+1) /\
      (∀i,i<len*(s+1)->B.g i=jC base i)/\(∀i,i<k*(s+1)->B.g (len*(s+1)+i)=src i)/\(∀i,(len+k)*(s+1)<=i->i<h*(s+1)->B.g i=bQ zs (i-(len+k)*(s+1))))):=by
 subst hx
 obtain⟨T1,C,a2⟩:=C
 obtain⟨hlen,H⟩:=O.run (P:=P) hM
 have K:=H k (aZ _)
 have A:∃e1,P.underlying T1=some (.slice e1):=by
  cases hk2:bA.tk P T1<;>rw[hk2] at a2<;>first|(cases a2;done)|skip
  exact⟨_,eR hk2⟩
 obtain⟨e1,A⟩:=A
 obtain⟨i,z,hi,br,bc,a3,a6⟩:=rn hs aa
 have a1:z.cells=zs.toArray:=by
  unfold dv at hz;rw[hi] at hz;simp[a3] at hz
  rw[<- hz]
 have am:zs.length=s+1:=by rw[<- a6,a1];simp
 by_cases l:len+k<=cap
 ·
  rcases base with _|⟨b,o,B⟩
  ·obtain⟨rfl,rfl⟩:=ha;obtain rfl:k=0:=aa;refine⟨_,w,?_,hc,.inl ⟨l,rfl,rfl⟩⟩
   simp[Builtin.append_,gu,hT,C,run_underlying (eR W),run_underlying A,bP hs aa,hlen,K]
  ·obtain⟨hb,hf,ho,ax,I⟩:=ha;have bq:len*(s+1)+k*(s+1)<=cap*(s+1):=by rw[<- Nat.add_mul];exact Nat.mul_le_mul_right _ l
   obtain⟨w',hr,a8,t⟩:=dK (P:=P) (ej (k*(s+1)) src) 0 (o:=o+len*(s+1)) hb hf (by rw[bM];omega) (fun v hv=>by
    obtain⟨j,r⟩:=List.mem_iff_getElem?.1 hv
    have al:j<k*(s+1):=by
     have:=(List.getElem?_eq_some_iff.1 r).1;rwa[bM] at this
    rw[fF _ _ _ al] at r;cases r;exact I j al) hc
   refine⟨_,w',?_,a8,.inl ⟨l,rfl,?_⟩⟩
   ·simp[Builtin.append_,gu,hT,C,run_underlying (eR W),run_underlying A,bP hs aa,hlen,l,K,eU,hr]
   ·refine t.congr ?_
    unfold bk.obj
    congr 1
    apply bk.cells_congr
    intro j r;rw[bM]
    change cQ B.g (o+len*(s+1)+0) (k*(s+1)) (ct (ej (k*(s+1)) src)) j=cQ B.g (o+len*(s+1)) (k*(s+1)) src j
    by_cases h1:o+len*(s+1)<=j/\j<o+len*(s+1)+k*(s+1)
    ·rw[bH _ _ _ _ _ aa aa,bH _ _ _ _ _ aa aa,nV _ _ _ aa]
     rfl
    ·rw[aP _ _ _ _ _ aa,aP _ _ _ _ _ aa]
 ·
  have a4:¬((((len+k:Nat)):Int)>IntKind.i64.max/\(False\/i.bytes=0)):=by
   intro hh;have:IntKind.i64.max=9223372036854775807:=by rfl
   rw[this] at hh;omega
  have bo:¬(Builtin.nextslicecap (len+k) cap*i.bytes>2^48):=by
   have h1:=lT (len+k) cap aa
   have h2:Builtin.nextslicecap (len+k) cap*i.bytes<=(2*(len+k)+768)*64:=Nat.mul_le_mul h1 (by rw[bc];exact bb)
   omega
  let q:Question:=.appendCap (len+k) cap e
  let h:=q.cut (w.tape w.drawn q)
  have Y:len+k<=h:=Nat.le_add_right _ _
  let cells:Array Value:=(ej (len*(s+1)) (jC base)).toArray++(ej (k*(s+1)) src).toArray++Builtin.zeroCells zs.toArray (h-(len+k))
  have hsz:cells.size=h*(s+1):=by
   simp only[cells,Array.size_append,List.size_toArray,bM,jB,am]
   rw[<- Nat.add_mul,<- Nat.add_mul]
   congr 1;omega
  have be:(h-(len+k))*(s+1)=h*(s+1)-(len+k)*(s+1):=Nat.mul_sub_right_distrib _ _ _
  have ba:(len+k)*(s+1)=len*(s+1)+k*(s+1):=Nat.add_mul _ _ _
  let B:bk:=⟨h*(s+1),fun i=>cells.getD i undef,e,(0,0)⟩
  have hB:B.obj = .cells cells e:=by
   unfold bk.obj
   congr 1
   apply Array.ext_getElem?
   intro j;by_cases r:j<h*(s+1)
   ·rw[bk.get B j r];have bm:j<cells.size:=by rw[hsz];exact r
    simp[B,bm]
   ·rw[Array.getElem?_eq_none (by rw[bk.size];exact Nat.le_of_not_lt r),Array.getElem?_eq_none (by rw[hsz];exact Nat.le_of_not_lt r)]
  refine⟨.slice (some ⟨w.heap.size,0,none⟩) (len+k) h,{ w with drawn:=w.drawn+1,heap:=w.heap.push B.obj },?_,⟨rfl,hc.2⟩,.inr ⟨aa,h,Y,rfl,B,rfl,rfl,rfl,?_,?_,?_⟩⟩
  ·rw[hB];have a9:q.forced=false:=rfl
   have u:(typeInfo e).run P w = .ok i w:=by simp[typeInfo,hi]
   have F:∀w',(typeInfo e).run P w' = .ok i w':=fun w'=>by simp[typeInfo,hi]
   have a5:∀w',(zeroValue e).run P w' = .ok z w':=fun w'=>by simp[zeroValue,typeInfo,hi,a3]
   have ab:∀w',w'.heap=w.heap->(Builtin.firstCells (s+1) len (.slice (gu base) len cap)).run P w' = .ok (ej (len*(s+1)) (jC base)).toArray w':=by
    intro w' V
    rcases base with _|⟨b,o,B⟩
    ·obtain⟨rfl,rfl⟩:=ha;simp[Builtin.firstCells,ej,gu]
    ·obtain⟨hb,hf,ho,ax,I⟩:=ha;simp only[Builtin.firstCells,gu]
     have:len*(s+1)<=cap*(s+1):=Nat.mul_le_mul_right _ ax
     exact dY (by rw[V];exact hb) aa
   have U:∀w',w'.heap=w.heap->(Builtin.firstCells (s+1) k y).run P w' = .ok (ej (k*(s+1)) src).toArray w':=fun w' V =>
    (O.run (P:=P) (w:=w') (by rw[V];exact hM)).2 k (aZ _)
   have aw:∀w' b',(askRoom b').run P w' = .ok () w':=fun w' b'=>by unfold askRoom;split<;>simp
   have bd:(choose q).run P w = .ok h { w with drawn:=w.drawn+1 }:=by
    simp[choose,Sem.run,a9,h]
   simp only[Builtin.append_,List.getElem?_toArray,List.getElem?_cons_zero,List.getElem?_cons_succ,hT,C,Sem.run_bind,run_underlying (eR W),run_underlying A,bP hs aa,Result.andThen_ok,Sem.run_pure,hlen,Bool.false_eq_true,if_false,ah l,u,false_or,not_false_eq_true,Bool.not_false,if_true]
   have a0:¬((((len+k:Nat)):Int)>IntKind.i64.max/\i.bytes=0):=fun hh=>a4 ⟨hh.1,.inr hh.2⟩
   simp only[a0,if_false,Sem.run_bind,u,Result.andThen_ok,bo]
   rw[show Question.appendCap (len+k) cap e=q from rfl,bd];simp only[Result.andThen_ok,F,aw,ab { w with drawn:=w.drawn+1 } rfl,U { w with drawn:=w.drawn+1 } rfl,a5,a1,newRow,Sem.run_bind,run_newObj,Sem.run_pure]
   rfl
  ·intro j r;simp only[B,cells,Array.getD_eq_getD_getElem?]
   rw[Array.getElem?_append_left (by simp only[Array.size_append,List.size_toArray,bM];omega),Array.getElem?_append_left (by simp only[List.size_toArray,bM];exact r)]
   simp[fF _ _ _ r]
  ·intro j r;simp only[B,cells,Array.getD_eq_getD_getElem?]
   rw[Array.getElem?_append_left (by simp only[Array.size_append,List.size_toArray,bM];omega),Array.getElem?_append_right (by simp only[List.size_toArray,bM];omega)]
   simp[bM,fF _ _ _ r]
  ·intro j a7 bs;have J:((ej (len*(s+1)) (jC base)).toArray++(ej (k*(s+1)) src).toArray).size=(len+k)*(s+1):=by simp[bM,ba]
   simp only[B,cells,Array.getD_eq_getD_getElem?]
   rw[Array.getElem?_append_right (by rw[J];exact a7),J,kx _ _ _ (by rw[am,be];omega)]
   rfl
end
end Go.Eng
