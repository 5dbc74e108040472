/- Texts 04. -/
import Derived.Test.YtogmacnlpclgkaaGreatDoorX03
set_option linter.all false
namespace Go.Eng
open Go
def dH (s:Nat) (v:Value) (len:Nat) (cl:Nat->Value) (sm:ao):Prop :=
 (v = .slice none 0 0/\len=0/\sm=[]) \/
 ∃b o cap B,v = .slice (some ⟨b,o,none⟩) len cap/\sm=[(b,B)]/\B.fr=(0,0)/\o+cap*s<=B.n/\len<=cap/\∀i,i<len*s->B.g (o+i)=cl i
def ky (v:Value) (len:Nat) (S:Nat->Value) (sm:ao):Prop :=
 (v = .slice none 0 0/\len=0/\sm=[]/\∀i,S i = .int .u8 0) \/
 ∃b cap B,v = .slice (some ⟨b,0,none⟩) len cap/\sm=[(b,B)]/\B.fr=(0,0)/\cap<=B.n/\len<=cap/\(∀i,i<cap->B.g i=S i)/\∀i,cap<=i->S i = .int .u8 0
theorem k_.of {M:ao} {s k b o h:Nat} {B:bk} (hb:(b,B)∈M) (i:o+k*s<=B.n):k_ M s (.slice (some ⟨b,o,none⟩) k h) k fun j=>B.g (o+j) :=
 .inl ⟨b,o,h,B,rfl,hb,i,rfl⟩
section
variable {P:Program} [ty:bA P] {G:ao} {qs:List FuncId} {c:World} {n:Nat} {h0:dx} {ops:Array Oper} {Q:Fr->ao->Prop} {rest:List Oper} {f:Fr} {m:ao}
variable {d:Option Tmp} {T T' tt:TypeId} {pos:String} {aft:Array Edge}
theorem ed.ne {h:bJ} (o:ed h0 G m h) {p q:Nat×bk} {i l2 j:ao} (e:m++G=i++p::l2++q::j):p.1≠q.1:=by
 have:=o.nodup
 rw[e] at this
 simp only[List.map_append,List.map_cons,List.nodup_append,List.nodup_cons,List.mem_append,List.mem_cons] at this
 intro g
 exact this.2.2 p.1 (by simp) q.1 (by simp) g
def jg:Option (Nat×Nat×bk)->ao
 | none=>[]
 | some (b,_,B)=>[(b,B)]
def rt (s len cap:Nat):Option (Nat×Nat×bk)->Prop
 | none=>len=0/\cap=0
 | some (_,o,B)=>B.fr=(0,0)/\o+cap*(s+1)<=B.n/\len<=cap
def ka (s len k:Nat) (src:Nat->Value):Option (Nat×Nat×bk)->ao
 | none=>[]
 | some (b,o,B)=>[(b,⟨B.n,cQ B.g (o+len*(s+1)) (k*(s+1)) src,B.T,B.fr⟩)]
omit ty in
theorem ed.pushed {h h':bJ} (o:ed h0 G m h) (hex:h0.ex=false) (B:bk) (e:h'=h.push B.obj):ed h0 G ((h.size,B)::m) h':=by subst e;exact o.push hex B
theorem lu {x y:Operand} {t:Array TypeId} {T1 e s len cap k:Nat} {src:Nat->Value} {zs:List Value} {base:Option (Nat×Nat×bk)} {fm:ao} (hx:ev f x = .slice (gu base) len cap) (hT:t[0]? = some T) (ad:bA.tk P T = .sl e) (hs:bA.sz P e=s+1)
  (hz:dv P e=some zs) (al:bA.by_ P e<=64) (Y:t[1]? = some T1) (F:tw (bA.tk P T1)=true)
  (hm:m.Perm (jg base++fm)) (O:rt s len cap base)
  (M:k_ (m++G) (s+1) (ev f y) k src) (K:∀j,j<k*(s+1)->dJ (src j)=true) (hk:len+k<=2^40) (hex:h0.ex=false) (hd:aE n d=true)
  (h1:len+k<=cap->RO P G qs c n h0 ops Q rest (aV f d (.slice (gu base) (len+k) cap)) (ka s len k src base++fm))
  (h2:cap<len+k->∀b' h B',len+k<=h->B'.fr=(0,0)->B'.n=h*(s+1)->(∀i,i<len*(s+1)->B'.g i=jC base i)->(∀i,i<k*(s+1)->B'.g (len*(s+1)+i)=src i) ->
   (∀i,(len+k)*(s+1)<=i->i<h*(s+1)->B'.g i=bQ zs (i-(len+k)*(s+1)))->RO P G qs c n h0 ops Q rest (aV f d (.slice (some ⟨b',0,none⟩) (len+k) h)) ((b',B')::fm)) :
  RO P G qs c n h0 ops Q (⟨d,.call ⟨.builtin .append,#[x,y],t⟩,tt,pos,aft,none⟩::rest) f m:=by
 refine ku rfl rfl hd fun hp w hw C a r=>?_
 have l:=hw.perm hm
 have hM:∀p∈m++G,w.heap[p.1]? = some p.2.obj:=fun p V=>by rw[C.1];exact hw.has p V
 have W:At c w.heap w:=⟨rfl,C.2⟩
 have am:pM w.heap s len cap k src base:=by
  rcases base with _|⟨b,o,B⟩
  ·exact O
  ·refine⟨?_,O.1,O.2.1,O.2.2,K⟩
   rw[C.1];exact l.has (b,B) (by simp[jg])
 obtain⟨v',w',hr,J,z⟩:=rX (P:=P) (tt:=tt) (base:=base) hT ad hs hz al ⟨T1,Y,F⟩ rfl M hM hk W am
 have u:(execOp a.eval ⟨d,.call ⟨.builtin .append,#[x,y],t⟩,tt,pos,aft,none⟩).run P w = .ok (.value v') w':=by
  rw[r.eval];simp only[execOp,resolve,Sem.run_bind,Sem.run_pure,Result.andThen_ok,invoke,builtin]
  rw[show(#[x,y].map (ev f))=#[ev f x,ev f y] by simp,hx,hr]
  rfl
 rcases z with⟨A,rfl,I⟩|⟨U,h,H,rfl,B',I,hf,ab,g1,g2,g3⟩
 ·refine cR u ⟨_,_,w'.heap,r.put hd _,J,?_,h1 A⟩
  rcases base with _|⟨b,o,B⟩
  ·have q:w'.heap=w.heap:=I
   rw[q,C.1]
   simpa[jg,ka] using l
  ·have q:fX w.heap b _ w'.heap:=I
   rw[C.1] at q;exact l.turned hex (tK.here (b:=b) (B:=B)) q
 ·refine cR u ⟨_,_,w'.heap,r.put hd _,J,?_,h2 U _ h B' H hf ab g1 g2 g3⟩
  have o2:ed h0 G fm hp:=by
   rcases base with _|⟨b,o,B⟩
   ·simpa[jg] using l
   ·exact ed.tail l
  rw[C.1] at I ⊢;exact o2.pushed hex B' I
theorem fZ {x y:Operand} {t:Array TypeId} {T1 e s len k:Nat} {v:Value} {cl src:Nat->Value} {zs:List Value} {sm fm:ao} (hx:ev f x=v) (hT:t[0]? = some T) (A:bA.tk P T = .sl e) (hs:bA.sz P e=s+1)
  (hz:dv P e=some zs) (C:bA.by_ P e<=64) (z:t[1]? = some T1) (p:tw (bA.tk P T1)=true)
  (M:dH (s+1) v len cl sm) (hm:m.Perm (sm++fm)) (r:k_ (m++G) (s+1) (ev f y) k src) (q:∀j,j<k*(s+1)->dJ (src j)=true) (W:len+k<=2^40) (hex:h0.ex=false) (hd:aE n d=true)
  (h:∀V u,dH (s+1) V (len+k) (fun i=>if i<len*(s+1) then cl i else src (i-len*(s+1))) u->RO P G qs c n h0 ops Q rest (aV f d V) (u++fm)) :
  RO P G qs c n h0 ops Q (⟨d,.call ⟨.builtin .append,#[x,y],t⟩,tt,pos,aft,none⟩::rest) f m:=by
 have ab:(len+k)*(s+1)=len*(s+1)+k*(s+1):=Nat.add_mul _ _ _
 rcases M with⟨rfl,rfl,rfl⟩|⟨b,o,cap,B,rfl,rfl,hf,ho,U,F⟩
 ·refine lu (base:=none) (cap:=0) hx hT A hs hz C z p hm ⟨rfl,rfl⟩ r q W hex hd (fun J=>?_) (fun J b' l B' O K h3 Y H h6=>?_)
  ·obtain rfl:k=0:=aa;exact h (.slice none 0 0) [] (.inl ⟨rfl,rfl,rfl⟩)
  ·refine h _ [(b',B')] (.inr ⟨b',0,l,B',rfl,rfl,K,aa,O,fun i hi=>?_⟩)
   simp only[Nat.zero_mul,Nat.not_lt_zero,if_false,Nat.zero_add,Nat.sub_zero] at H hi ⊢
   exact H i hi
 ·refine lu (base:=some (b,o,B)) hx hT A hs hz C z p hm ⟨hf,ho,U⟩ r q W hex hd (fun J=>?_) (fun J b' l B' O K h3 Y H h6=>?_)
  ·refine h _ [(b,_)] (.inr ⟨b,o,cap,_,rfl,rfl,hf,ho,J,fun i hi=>?_⟩)
   simp only
   split
   ·rw[aP _ _ _ _ _ aa];exact F i (by assumption)
   ·rw[bH _ _ _ _ _ aa aa];congr 1;omega
  ·refine h _ [(b',B')] (.inr ⟨b',0,l,B',rfl,rfl,K,aa,O,fun i hi=>?_⟩)
   rw[Nat.zero_add];show B'.g i=if i<len*(s+1) then cl i else src (i-len*(s+1))
   by_cases I:i<len*(s+1)
   ·rw[Y i I,ai I];exact F i I
   ·rw[ah I];have:=H (i-len*(s+1)) aa
    rw[show len*(s+1)+(i-len*(s+1))=i from aa] at this;exact this
theorem yi {x y:Operand} {z:Array TypeId} {T1 e len k:Nat} {v:Value} {S src:Nat->Value} {sm fm:ao} (hx:ev f x=v) (hT:z[0]? = some T) (H:bA.tk P T = .sl e) (hs:bA.sz P e=1)
  (hz:dv P e=some [.int .u8 0]) (I:bA.by_ P e<=64) (F:z[1]? = some T1) (q:tw (bA.tk P T1)=true)
  (O:ky v len S sm) (hm:m.Perm (sm++fm)) (t:k_ (m++G) 1 (ev f y) k src) (r:∀j,j<k->dJ (src j)=true) (hk:len+k<=2^40) (hex:h0.ex=false) (hd:aE n d=true)
  (h:∀v' C,ky v' (len+k) (cQ S len k src) C->RO P G qs c n h0 ops Q rest (aV f d v') (C++fm)) :
  RO P G qs c n h0 ops Q (⟨d,.call ⟨.builtin .append,#[x,y],z⟩,tt,pos,aft,none⟩::rest) f m:=by
 have A:∀i,bQ [.int .u8 0] i = .int .u8 0:=fun i=>by simp[bQ,Nat.mod_one]
 rcases O with⟨rfl,rfl,rfl,u⟩|⟨b,cap,B,rfl,rfl,hf,ho,ab,J,u⟩
 ·refine lu (s:=0) (base:=none) (cap:=0) hx hT H hs hz I F q hm ⟨rfl,rfl⟩ t (by simpa using r) hk hex hd (fun K=>?_) (fun K b' p B' U M h3 h4 V Y=>?_)
  ·obtain rfl:k=0:=aa;exact h (.slice none 0 0) [] (.inl ⟨rfl,rfl,rfl,fun i=>by rw[eY];exact u i⟩)
  ·simp only[Nat.zero_add,Nat.mul_one,Nat.zero_mul,Nat.not_lt_zero] at *
   refine h _ [(b',B')] (.inr ⟨b',p,B',rfl,rfl,M,aa,U,fun i hi=>?_,fun i hi=>?_⟩)
   ·by_cases l:i<k
    ·rw[bH _ _ _ _ _ aa aa,V i l];rfl
    ·rw[aP _ _ _ _ _ aa,Y i aa hi,A];exact(u i).symm
   ·rw[aP _ _ _ _ _ aa];exact u i
 ·refine lu (s:=0) (base:=some (b,0,B)) hx hT H hs hz I F q hm ⟨hf,aa,ab⟩ t (by simpa using r) hk hex hd (fun K=>?_) (fun K b' p B' U M h3 h4 V Y=>?_)
  ·refine h _ [(b,_)] (.inr ⟨b,cap,_,rfl,rfl,hf,ho,K,fun i hi=>?_,fun i hi=>?_⟩)
   ·show cQ B.g (0+len*(0+1)) (k*(0+1)) src i=cQ S len k src i
    rw[show 0+len*(0+1)=len from aa,show k*(0+1)=k from aa];by_cases l:len<=i/\i<len+k
    ·rw[bH _ _ _ _ _ l.1 l.2,bH _ _ _ _ _ l.1 l.2]
    ·rw[aP _ _ _ _ _ aa,aP _ _ _ _ _ aa];exact J i hi
   ·rw[aP _ _ _ _ _ aa];exact u i hi
  ·simp only[Nat.zero_add,Nat.mul_one] at *
   refine h _ [(b',B')] (.inr ⟨b',p,B',rfl,rfl,M,aa,U,fun i hi=>?_,fun i hi=>?_⟩)
   ·by_cases l:len<=i/\i<len+k
    ·rw[bH _ _ _ _ _ l.1 l.2];have:=V (i-len) aa
     rw[show len+(i-len)=i from aa] at this;exact this
    ·rw[aP _ _ _ _ _ aa];by_cases W:i<len
     ·rw[h4 i W];simp only[jC,Nat.zero_add];exact J i aa
     ·rw[Y i aa hi,A];exact(u i aa).symm
   ·rw[aP _ _ _ _ _ aa];exact u i aa
theorem jq {x y:Operand} {C:Array TypeId} {e s b o dl W k:Nat} {src:Nat->Value} {B:bk} {m':ao} (hx:ev f x = .slice (some ⟨b,o,none⟩) dl W) (Y:C[0]? = some T) (J:bA.tk P T = .sl e) (hs:bA.sz P e=s+1)
  (A:k_ (m++G) (s+1) (ev f y) k src) (z:∀j,j<(min k dl)*(s+1)->dJ (src j)=true) (V:tK m b B ⟨B.n,cQ B.g o ((min k dl)*(s+1)) src,B.T,B.fr⟩ m') (hf:B.fr=(0,0)) (ho:o+dl*(s+1)<=B.n) (hex:h0.ex=false) (hd:aE n d=true)
  (h:RO P G qs c n h0 ops Q rest (aV f d (.int .i64 (min k dl:Nat))) m') :
  RO P G qs c n h0 ops Q (⟨d,.call ⟨.builtin .copy,#[x,y],C⟩,tt,pos,aft,none⟩::rest) f m:=by
 refine ku rfl rfl hd fun hp w U M a r=>?_
 have O:∀p∈m++G,w.heap[p.1]? = some p.2.obj:=fun p H=>by rw[M.1];exact U.has p H
 have hb:w.heap[b]? = some B.obj:=O (b,B) (List.mem_append.2 (.inl V.mem))
 have I:At c w.heap w:=⟨rfl,M.2⟩
 obtain⟨hlen,i⟩:=A.run (P:=P) O
 have u:=i (min k dl) (Nat.min_le_left _ _)
 have ab:(min k dl)*(s+1)<=dl*(s+1):=Nat.mul_le_mul_right _ (Nat.min_le_right _ _)
 obtain⟨w',hr,K,t⟩:=dK (P:=P) (ej ((min k dl)*(s+1)) src) 0 (o:=o) hb hf (by rw[bM];omega) (fun v hv=>by
    obtain⟨j,F⟩:=List.mem_iff_getElem?.1 hv
    have q:j<(min k dl)*(s+1):=by
     have:=(List.getElem?_eq_some_iff.1 F).1;rwa[bM] at this
    rw[fF _ _ _ q] at F;cases F;exact z j q) I
 refine cR (v:=.int .i64 (min k dl:Nat)) (w':=w') ?_ ⟨_,_,w'.heap,r.put hd _,K,?_,h⟩
 ·rw[r.eval];have l:Nat.min k dl=min k dl:=rfl
  simp only[execOp,resolve,Sem.run_bind,Sem.run_pure,Result.andThen_ok,invoke,builtin,Builtin.copy_]
  rw[show(#[x,y].map (ev f))=#[ev f x,ev f y] by simp,hx]
  simp only[List.getElem?_toArray,List.getElem?_cons_zero,List.getElem?_cons_succ,Y,Sem.run_bind,run_underlying (eR J),Result.andThen_ok,hlen,bP hs aa,l,u,hr,Sem.run_pure,goInt]
 ·rw[M.1] at t;refine U.turned hex V (t.congr ?_)
  unfold bk.obj
  congr 1
  apply bk.cells_congr
  intro j F;rw[bM]
  change cQ B.g (o+0) ((min k dl)*(s+1)) (ct (ej ((min k dl)*(s+1)) src)) j=cQ B.g o ((min k dl)*(s+1)) src j
  by_cases h1:o<=j/\j<o+(min k dl)*(s+1)
  ·rw[bH _ _ _ _ _ aa aa,bH _ _ _ _ _ aa aa,nV _ _ _ aa]
   rfl
  ·rw[aP _ _ _ _ _ aa,aP _ _ _ _ _ aa]
theorem gm {x y:Operand} {e s len cap:Nat} {k k':IntKind} {zs:List Value} (hx:ev f x = .int k len) (hy:ev f y = .int k' cap) (hT:bA.tk P T = .sl e) (hs:bA.sz P e=s+1) (J:dv P e=some zs) (C:bA.by_ P e<=64)
  (al:len<=cap) (l:cap<=2^40) (hex:h0.ex=false) (hd:aE n d=true)
  (h:∀b,h0.h.size<=b->RO P G qs c n h0 ops Q rest (aV f d (.slice (some ⟨b,0,none⟩) len cap)) ((b,⟨cap*(s+1),bQ zs,e,(0,0)⟩)::m)) :
  RO P G qs c n h0 ops Q (⟨d,.makeSlice T x y,tt,pos,aft,none⟩::rest) f m:=by
 refine oL rfl rfl hd fun hp w hw K a r=>?_
 obtain⟨i,z,hi,am,t,u,Y⟩:=rn hs aa
 have H:z.cells=zs.toArray:=by
  unfold dv at J;rw[hi] at J;simp[u] at J
  rw[<- J]
 have ad:zs.length=s+1:=by rw[<- Y,H];simp
 have hsz:=hw.size
 let B:bk:=⟨cap*(s+1),bQ zs,e,(0,0)⟩
 have hB:B.obj = .cells ((Array.range (cap*(s+1))).map (fun j=>z.cells[j%z.cells.size]!)) e:=by
  unfold bk.obj
  congr 1
  apply Array.ext_getElem?
  intro j;by_cases F:j<cap*(s+1)
  ·rw[bk.get B j F];have hm:=Nat.mod_lt j (show 0<zs.length from aa)
   simp[B,bQ,F,H,List.getD,hm]
  ·rw[Array.getElem?_eq_none (by rw[bk.size];exact Nat.le_of_not_lt F)]
   simp[F]
 have I:∀j:Nat,j<=2^40->IntKind.i64.wrap (j:Int)=j:=fun j F=>IntWalk.i64_in _ aa
 have p:i.bytes*cap<=64*2^40:=Nat.mul_le_mul (by rw[t];exact C) l
 have O:i.bytes*len<=64*2^40:=Nat.mul_le_mul (by rw[t];exact C) aa
 have q:∀w' b',(askRoom b').run P w' = .ok () w':=fun w' b'=>by unfold askRoom;split<;>simp
 refine cR (v:=.slice (some ⟨w.heap.size,0,none⟩) len cap) (w':={ w with heap:=w.heap.push B.obj }) ?_ ⟨_,_,_,r.put hd _,⟨rfl,K.2⟩,?_,by rw[K.1];exact dz.push hex _ _,h w.heap.size (by rw[K.1];exact hsz)⟩
 ·rw[r.eval,hB];have e1:((i.bytes:Int)*(cap:Int))<=64*2^40:=by
   rw[<- Int.natCast_mul];exact Int.ofNat_le.2 p
  have ab:(decide ((cap:Int)<0)||decide ((i.bytes:Int)*(cap:Int)>2^48))=false:=by
   rw[Bool.or_eq_false_iff];exact⟨decide_eq_false aa,decide_eq_false aa⟩
  have V:¬((len:Int)<0):=aa
  have M:¬((len:Int)>cap):=aa
  have W:∀w',(typeInfo e).run P w' = .ok i w':=fun w'=>by simp[typeInfo,hi]
  have U:∀w',(zeroValue e).run P w' = .ok z w':=fun w'=>by simp[zeroValue,typeInfo,hi,u]
  simp only[execOp,hx,hy,Instr.makeSlice,Sem.run_bind,run_underlying (eR hT),Result.andThen_ok,asInt,asIntOf,Sem.run_pure,W,I len aa,I cap l,ab,V,M,decide_false,Bool.or_self,Bool.false_eq_true,if_false,q,bP hs aa,Int.toNat_natCast]
  by_cases A:cap*(s+1)=0
  ·have hr0:∀g:Nat->Value,Array.map g (Array.range 0)=#[]:=fun g=>by simp
   simp only[A,if_true,Sem.run_pure,Result.andThen_ok,newRow,Sem.run_bind,run_newObj,hr0]
  ·simp only[ah A,Sem.run_bind,U,Sem.run_pure,Result.andThen_ok,newRow,run_newObj]
 ·rw[K.1];exact hw.push hex _
theorem wj {x:Operand} {vs:List Value} {i off:Nat} {T':TypeId} {v:Value} (hx:ev f x = .agg vs.toArray) (g:rq (bA.tk P T) i=some (off,T')) (j:lS (bA.tk P T')=true) (p:vs[off]? = some v) (hd:aE n d=true)
  (h:RO P G qs c n h0 ops Q rest (aV f d v) m):RO P G qs c n h0 ops Q (⟨d,.field T x i,tt,pos,aft,none⟩::rest) f m:=by
 refine cY rfl rfl hd (fun w=>?_) h
 unfold rq at g
 split at g
 ·rename_i fs hk
  obtain⟨q,hf,hl⟩:=v9 hk;subst hl;simp only[List.getElem?_map,Option.map_eq_some_iff,Array.getElem?_toList] at g
  obtain⟨fd,k,l⟩:=g;simp only[Prod.mk.injEq] at l
  obtain⟨rfl,rfl⟩:=l;simp[execOp,hx,Instr.field,run_underlying hf,k,asAgg,part,gA j,p]
 ·cases g
omit ty in
theorem oO {g:Array (Nat×Operand)} {vs:List Value} (j:∀w,(Instr.build T (g.map fun(i,x)=>(i,ev f x))).run P w = .ok (.agg vs.toArray) w) (hd:aE n d=true)
  (h:RO P G qs c n h0 ops Q rest (aV f d (.agg vs.toArray)) m):RO P G qs c n h0 ops Q (⟨d,.build T g,tt,pos,aft,none⟩::rest) f m :=
 cY rfl rfl hd (fun w=>by simp only[execOp,Sem.run_bind,j w,Result.andThen_ok];rfl) h
def CB:Value->Option Bool
 | .nilIface=>some true
 | .iface _ _=>some false
 | _=>none
omit ty in
theorem eV {w:World} {x y:Value} {b:Bool} (h:∀k,(Op.equalIn (k+2) T x y).run P w = .ok b w):(Op.equal T x y).run P w = .ok b w:=h 9998
theorem wq {w:World} {v:Value} {b:Bool} (i:bA.tk P T = .ifc) (g:CB v=some b) (k:Nat):(Op.equalIn (k+2) T v .nilIface).run P w = .ok b w:=by
 obtain⟨ms,h⟩:=v_ i
 cases v<;>first|(cases g;done)|skip
 all_goals (cases g;simp[Op.equalIn,run_underlying h])
theorem oP {x:Operand} {v:Value} (hx:ev f x=v) (k:bA.tk P T = .ifc) {b:Bool} (g:CB v=some b) (hd:aE n d=true)
  (h:RO P G qs c n h0 ops Q rest (aV f d (.bool b)) m):RO P G qs c n h0 ops Q (⟨d,.binOp .eql T x (.const .nilIface) T',tt,pos,aft,none⟩::rest) f m:=by
 have i:∀w,(execOp (ev f) ⟨d,.binOp .eql T x (.const .nilIface) T',tt,pos,aft,none⟩).run P w = .ok (.value (.bool b)) w:=fun w=>by
  have j:=eV (P:=P) (w:=w) (wq k g)
  cases v<;>first|(cases g;done)|skip
  all_goals simp[execOp,hx,show ev f (.const .nilIface) = .nilIface from rfl,eqGuard,binOp,j]
 exact dX (aZ _) rfl hd (fun _ _ w _ l=>⟨w,l,.inl (i w)⟩) (fun _=>i) h
theorem wt {x:Operand} {v:Value} (hx:ev f x=v) (k:bA.tk P T = .ifc) {b:Bool} (g:CB v=some b) (hd:aE n d=true)
  (h:RO P G qs c n h0 ops Q rest (aV f d (.bool !b)) m):RO P G qs c n h0 ops Q (⟨d,.binOp .neq T x (.const .nilIface) T',tt,pos,aft,none⟩::rest) f m:=by
 have i:∀w,(execOp (ev f) ⟨d,.binOp .neq T x (.const .nilIface) T',tt,pos,aft,none⟩).run P w = .ok (.value (.bool !b)) w:=fun w=>by
  have j:=eV (P:=P) (w:=w) (wq k g)
  cases v<;>first|(cases g;done)|skip
  all_goals simp[execOp,hx,show ev f (.const .nilIface) = .nilIface from rfl,eqGuard,binOp,j]
 exact dX (aZ _) rfl hd (fun _ _ w _ l=>⟨w,l,.inl (i w)⟩) (fun _=>i) h
theorem wu {x y:Operand} {t t':TypeId} {u v:Value} (hx:ev f x = .iface t u) (l:ev f y = .iface t' v) (r:bA.tk P T = .ifc) (g:Nat.beq t t'=false) (hd:aE n d=true)
  (h:RO P G qs c n h0 ops Q rest (aV f d (.bool false)) m):RO P G qs c n h0 ops Q (⟨d,.binOp .eql T x y T',tt,pos,aft,none⟩::rest) f m:=by
 obtain⟨ms,p⟩:=v_ r
 have i:t≠t':=fun e=>by subst e;rw[Nat.beq_refl] at g;cases g
 have j:∀w,(execOp (ev f) ⟨d,.binOp .eql T x y T',tt,pos,aft,none⟩).run P w = .ok (.value (.bool false)) w:=fun w=>by
  have q:(Op.equal T (.iface t u) (.iface t' v)).run P w = .ok false w:=eV fun k=>by simp[Op.equalIn,run_underlying p,i]
  simp[execOp,hx,l,eqGuard,binOp,q]
 exact dX (aZ _) rfl hd (fun _ _ w _ z=>⟨w,z,.inl (j w)⟩) (fun _=>j) h
end
end Go.Eng
namespace Go.Eng
open Go
theorem qF {k:Nat} {a:Int} (h0:0<=a) (g:a<2^k):(BitVec.ofInt k a).toNat=a.toNat:=by
 obtain⟨n,rfl⟩:=Int.eq_ofNat_of_zero_le h0
 have h:n<2^k:=by exact_mod_cast g
 simp[Nat.mod_eq_of_lt h]
theorem yj {k:IntKind} (h:k.signed=false) {a:Int} (h0:0<=a) (g:a<2^k.bits):k.wrap a=a:=by
 unfold IntKind.wrap
 simp[h,Int.emod_eq_of_lt h0 g]
theorem yk {k:IntKind} {a b:Int} (j:Nat) (h0:0<=a) (l:a<2^j) (g:0<=b) (hb:b%2^j=0) (hs:k.signed=false) (h:a+b<2^k.bits) :
  k.wrap (BitVec.ofInt k.bits a|||BitVec.ofInt k.bits b).toNat=a+b:=by
 rw[BitVec.toNat_or,qF h0 aa,qF g aa]
 obtain⟨x,rfl⟩:=Int.eq_ofNat_of_zero_le h0
 obtain⟨y,rfl⟩:=Int.eq_ofNat_of_zero_le g
 have hx:x<2^j:=by exact_mod_cast l
 have p:y%2^j=0:=by exact_mod_cast hb
 have i:x|||y=x+y:=by
  obtain⟨z,rfl⟩:∃z,y=2^j*z:=⟨y/2^j,by have:=Nat.div_add_mod y (2^j);omega⟩
  rw[Nat.or_comm,<- Nat.two_pow_add_eq_or_of_lt hx];omega
 simp only[Int.toNat_natCast,i]
 rw[yj hs aa (by exact_mod_cast h)]
 simp
theorem ww (a:Int) (j:Nat):a.fdiv (2^j)=a/2^j:=Int.fdiv_eq_ediv_of_nonneg _ (Int.le_of_lt (Int.pow_pos aa))
section
variable {P:Program} {G:ao} {qs:List FuncId} {c:World} {n:Nat} {h0:dx} {ops:Array Oper} {Q:Fr->ao->Prop} {rest:List Oper} {f:Fr} {m:ao}
variable {d:Option Tmp} {T T' tt:TypeId} {pos:String} {aft:Array Edge}
theorem zp {x y:Operand} {k k':IntKind} {a b p:Int} (hx:ev f x = .int k a) (l:ev f y = .int k' b) (g:0<=b) (hb:b<=k.bits) (i:(2:Int)^b.toNat=p) (j:k.wrap (a*p)=a*p) (hd:aE n d=true)
  (h:RO P G qs c n h0 ops Q rest (aV f d (.int k (a*p))) m):RO P G qs c n h0 ops Q (⟨d,.binOp .shl T x y T',tt,pos,aft,none⟩::rest) f m:=by
 refine yg hx l g hd ?_
 rw[Nat.min_eq_left aa,i,j];exact h
theorem zr {x y:Operand} {k k':IntKind} {a b p:Int} (hx:ev f x = .int k a) (j:ev f y = .int k' b) (g:0<=b) (hb:b<=k.bits) (i:(2:Int)^b.toNat=p) (hd:aE n d=true)
  (h:RO P G qs c n h0 ops Q rest (aV f d (.int k (a/p))) m):RO P G qs c n h0 ops Q (⟨d,.binOp .shr T x y T',tt,pos,aft,none⟩::rest) f m:=by
 refine CA hx j g hd ?_
 rw[Nat.min_eq_left aa,ww,i];exact h
theorem nX {x y:Operand} {k:IntKind} {a b:Int} (j:Nat) (hx:ev f x = .int k a) (q:ev f y = .int k b) (p:0<=a) (g:a<2^j) (i:0<=b) (hb:b%2^j=0) (hs:k.signed=false) (l:a+b<2^k.bits) (hd:aE n d=true)
  (h:RO P G qs c n h0 ops Q rest (aV f d (.int k (a+b))) m):RO P G qs c n h0 ops Q (⟨d,.binOp .or T x y T',tt,pos,aft,none⟩::rest) f m :=
 dq hx q rfl hd (by rw[yk j p g i hb hs l];exact h)
theorem rY {c:World} {Q:Exit->Fr->ao->Prop} {x:Operand} {y z:Code} {b:Bool} (hb:ev f x = .bool b) (ht:b=true) (g:J P G c n h0 y Q f m):J P G c n h0 (.cond x y z) Q f m:=ld (ht▸hb) g
theorem oQ {c:World} {Q:Exit->Fr->ao->Prop} {x:Operand} {y z:Code} {b:Bool} (hb:ev f x = .bool b) (ht:b=false) (g:J P G c n h0 z Q f m):J P G c n h0 (.cond x y z) Q f m:=oI (ht▸hb) g
end
def wx:Value->Option Value
 | .bool b=>some (.bool b)
 | .int k n=>some (.int k n)
 | .string s=>some (.string s)
 | .pointer (some ⟨b,o,s⟩)=>some (.pointer (some ⟨b,o,s⟩))
 | .pointer none=>some (.pointer none)
 | .slice a n c=>some (.slice a n c)
 | .func f a b=>some (.func f a b)
 | .nilFunc=>some .nilFunc
 | .iface t v=>some (.iface t v)
 | .nilIface=>some .nilIface
 | .agg ⟨l⟩=>some (.agg ⟨l⟩)
 | .tuple ⟨l⟩=>some (.tuple ⟨l⟩)
 | _=>none
theorem oR {v u:Value} (h:wx v=some u):v=u:=by
 unfold wx at h
 split at h<;>first|(cases h;rfl)|cases h
def nN (P:Program) [bA P] (f:Fr):Op->Option Value
 | .move x|.assign x=>wx (ev f x)
 | .nilCheck x=>match ev f x with
  | .pointer (some ⟨b,o,s⟩)=>some (.pointer (some ⟨b,o,s⟩))
  | _=>none
 | .fieldAddr T x i=>match ev f x with
  | .pointer (some ⟨b,o,none⟩)=>match rq (bA.tk P T) i with
   | some (off,T')=>bif Nat.beq (bA.sz P T') 0 then none else some (.pointer (some ⟨b,o+off,none⟩))
   | none=>none
  | _=>none
 | .extract x i=>match ev f x with
  | .tuple ⟨l⟩=>match l[i]? with
   | some v=>wx v
   | none=>none
  | _=>none
 | .binOp .lss _ x y _=>match ev f x,ev f y with
  | .int k a,.int k' b=>bif kindEq k k' then some (.bool (decide (a<b))) else none
  | _,_=>none
 | .binOp .leq _ x y _=>match ev f x,ev f y with
  | .int k a,.int k' b=>bif kindEq k k' then some (.bool (decide (a<=b))) else none
  | _,_=>none
 | .binOp .gtr _ x y _=>match ev f x,ev f y with
  | .int k a,.int k' b=>bif kindEq k k' then some (.bool (decide (a>b))) else none
  | _,_=>none
 | .binOp .geq _ x y _=>match ev f x,ev f y with
  | .int k a,.int k' b=>bif kindEq k k' then some (.bool (decide (a ≥ b))) else none
  | _,_=>none
 | .call ⟨.builtin .len,⟨[x]⟩,⟨T::_⟩⟩=>match ev f x,bA.tk P T with
  | .slice _ n _,.sl _=>some (.int .i64 n)
  | _,_=>none
 | .call ⟨.builtin .cap,⟨[x]⟩,⟨T::_⟩⟩=>match ev f x,bA.tk P T with
  | .slice _ _ n,.sl _=>some (.int .i64 n)
  | _,_=>none
 | .makeInterface T x=>match wx (ev f x) with
  | some v=>bif yh (bA.tk P T) then some (.iface T v) else none
  | none=>none
 | _=>none
 where
 kindEq:IntKind->IntKind->Bool
  | .i8,.i8|.i16,.i16|.i32,.i32|.i64,.i64|.u8,.u8|.u16,.u16|.u32,.u32|.u64,.u64=>true
  | _,_=>false
theorem mV {k k':IntKind} (h:nN.kindEq k k'=true):k=k':=by cases k<;>cases k'<;>first|rfl|cases h
theorem AW {P:Program} [bA P] {f:Fr} {o:Oper} {v:Value} (h:nN P f o.op=some v) (w:World):(execOp (ev f) o).run P w = .ok (.value v) w:=by
 obtain⟨d,op,tt,pos,aft,g⟩:=o
 simp only at h
 unfold nN at h
 split at h
 ·rename_i x;simp[execOp,oR h]
 ·rename_i x;simp[execOp,oR h]
 ·rename_i x
  split at h
  ·rename_i b o s hx;cases h;simp[execOp,hx]
  ·cases h
 ·rename_i T x i
  split at h
  ·rename_i b o hx
   split at h
   ·rename_i off T' hT
    cases hz:Nat.beq (bA.sz P T') 0 with
    | true=>rw[hz] at h;cases h
    | false =>
     rw[hz] at h;cases h;have q:bA.sz P T'≠0:=fun e=>by rw[e] at hz;cases hz
     obtain⟨s,hs⟩:∃s,bA.sz P T'=s+1:=⟨bA.sz P T'-1,aa⟩
     unfold rq at hT;split at hT
     ·rename_i fs hk
      obtain⟨r,hf,hl⟩:=v9 hk;subst hl;simp only[List.getElem?_map,Option.map_eq_some_iff,Array.getElem?_toList] at hT
      obtain⟨fd,j,p⟩:=hT;simp only[Prod.mk.injEq] at p
      obtain⟨rfl,rfl⟩:=p;simp[execOp,hx,Instr.fieldAt,run_underlying hf,j,Instr.sureAddr,fieldPlace,bP hs aa,eU]
     ·cases hT
   ·cases h
  ·cases h
 ·rename_i x i
  split at h
  ·rename_i l hx
   split at h
   ·rename_i u hu
    simp[execOp,hx,Instr.extract,hu,oR h]
   ·cases h
  ·cases h
 ·split at h
  ·rename_i k a k' b hx hy
   cases hk:nN.kindEq k k' with
   | false=>rw[hk] at h;cases h
   | true=>rw[hk] at h;cases h;cases mV hk;simp[execOp,hx,hy,eqGuard,binOp,Op.intCmp]
  ·cases h
 ·split at h
  ·rename_i k a k' b hx hy
   cases hk:nN.kindEq k k' with
   | false=>rw[hk] at h;cases h
   | true=>rw[hk] at h;cases h;cases mV hk;simp[execOp,hx,hy,eqGuard,binOp,Op.intCmp]
  ·cases h
 ·split at h
  ·rename_i k a k' b hx hy
   cases hk:nN.kindEq k k' with
   | false=>rw[hk] at h;cases h
   | true=>rw[hk] at h;cases h;cases mV hk;simp[execOp,hx,hy,eqGuard,binOp,Op.intCmp]
  ·cases h
 ·split at h
  ·rename_i k a k' b hx hy
   cases hk:nN.kindEq k k' with
   | false=>rw[hk] at h;cases h
   | true=>rw[hk] at h;cases h;cases mV hk;simp[execOp,hx,hy,eqGuard,binOp,Op.intCmp]
  ·cases h
 ·split at h
  ·rename_i a n' c' e hx hT
   cases h;simp[execOp,resolve,invoke,builtin,Builtin.len_,hx,run_underlying (eR hT),goInt]
  ·cases h
 ·split at h
  ·rename_i a n' c' e hx hT
   cases h;simp[execOp,resolve,invoke,builtin,Builtin.cap_,hx,run_underlying (eR hT),goInt]
  ·cases h
 ·rename_i T x
  split at h
  ·rename_i u hu
   cases hk:yh (bA.tk P T) with
   | false=>rw[hk] at h;cases h
   | true =>
    rw[hk] at h;cases h;have hx:=oR hu
    cases hk2:bA.tk P T<;>rw[hk2] at hk<;>first|(cases hk;done)|skip
    case int k=>simp[execOp,hx,Instr.makeInterface,run_underlying (ef hk2)]
    case bool=>simp[execOp,hx,Instr.makeInterface,run_underlying (pK hk2)]
    case string=>simp[execOp,hx,Instr.makeInterface,run_underlying (kF hk2)]
    case ptr e=>simp[execOp,hx,Instr.makeInterface,run_underlying (qB hk2)]
    case sl e=>simp[execOp,hx,Instr.makeInterface,run_underlying (eR hk2)]
    case arr k e=>simp[execOp,hx,Instr.makeInterface,run_underlying (qC hk2)]
    case st fs=>obtain⟨r,hf,_⟩:=v9 hk2;simp[execOp,hx,Instr.makeInterface,run_underlying hf]
    case fn=>obtain⟨_,_,_,hf⟩:=Hh hk2;simp[execOp,hx,Instr.makeInterface,run_underlying hf]
  ·cases h
 ·cases h
def ru (P:Program) [bA P] (n:Nat):List Oper->Fr->List Oper×Fr
 | [],f=>([],f)
 | o::rest,f=>match o.guard with
  | some _=>(o::rest,f)
  | none=>bif aE n o.dst then(match nN P f o.op with
    | some v=>ru P n rest (aV f o.dst v)
    | none=>(o::rest,f)) else(o::rest,f)
theorem AX {P:Program} [bA P] {f:Fr} {op:Op} {v:Value} {qs:List FuncId} (h:nN P f op=some v):gE qs op=0:=by
 unfold nN at h
 split at h<;>first|rfl|(cases h;done)
theorem gB {P:Program} [bA P] {G:ao} {qs:List FuncId} {c:World} {n:Nat} {h0:dx} {ops:Array Oper} {Q:Fr->ao->Prop} {l i:List Oper} {f g:Fr} {m:ao}
  (hb:ru P n l f=(i,g)) (h:RO P G qs c n h0 ops Q i g m):RO P G qs c n h0 ops Q l f m:=by
 induction l generalizing f with
 | nil=>simp only[ru,Prod.mk.injEq] at hb;obtain⟨rfl,rfl⟩:=hb;exact h
 | cons o rest j =>
  unfold ru at hb;split at hb
  ·simp only[Prod.mk.injEq] at hb;obtain⟨rfl,rfl⟩:=hb;exact h
  ·rename_i hg
   cases hd:aE n o.dst with
   | false=>rw[hd] at hb;simp only[cond_false,Prod.mk.injEq] at hb;obtain⟨rfl,rfl⟩:=hb;exact h
   | true =>
    rw[hd] at hb;simp only[cond_true] at hb
    split at hb
    ·rename_i v hv
     exact cY (AX hv) hg hd (AW hv) (j hb)
    ·simp only[Prod.mk.injEq] at hb;obtain⟨rfl,rfl⟩:=hb;exact h
def mq:List Value->Value
 | [v]=>v
 | vs=>.tuple vs.toArray
theorem oS {fn:Func} {g:List Nat} (i:fn.results=(g.map ResultVar.tmp).toArray) {P:Program} {n:Nat} {a:Act} {f:Fr} (r:nL n a f) (w:World):(results fn a.tmps).run P w = .ok (mq (g.map f)) w:=by
 have key:∀(g:List Nat) ,((g.map ResultVar.tmp).mapM (fun|.tmp t=>pure (a.tmps.getD t undef)|.cell k t=>do loadVar t (<- asAddr (a.tmps.getD k undef))):Sem (List Value)).run P w = .ok (g.map f) w:=by
  intro g
  induction g with
  | nil=>simp
  | cons t g j =>
   simp only[List.map_cons,List.mapM_cons,Sem.run_bind,Sem.run_pure,Result.andThen_ok]
   rw[j];simp only[Result.andThen_ok,Sem.run_pure]
   rw[r.slot t]
 unfold results
 rw[i]
 simp only[Sem.run_bind,List.mapM_toArray,Sem.run_map]
 erw [key g]
 simp only[Result.andThen_ok,Sem.run_pure]
 congr 1
 cases h:g.map f with
 | nil=>simp[mq]
 | cons v vs=>cases vs<;>simp[mq]
theorem cL {P:Program} {G:ao} {c:World} {fn:Func} {h0:dx} {R:Value->ao->Prop} {f:Fr} {m:ao} (i:List Nat) (g:fn.results=(i.map ResultVar.tmp).toArray) {post junk:ao} (j:aR m (post++junk)) (k:R (mq (i.map f)) post) :
  Ends P G c fn h0 R .ret f m :=
 ⟨_,post,junk,fun a w h r _ _=>oS g r w,j,k⟩
theorem wy {P:Program} {G:ao} {c:World} {fn:Func} {h0:dx} {R:Value->ao->Prop} {f:Fr} {m:ao} (i:List Nat) (g:fn.results=(i.map ResultVar.tmp).toArray) {post junk:ao} (j:aR m (post++junk)) (k:R (mq (i.map f)) post) :
  Ends P G c fn h0 R .normal f m :=
 ⟨_,post,junk,fun a w h r _ _=>oS g r w,j,k⟩
end Go.Eng
namespace Go.Eng
open Go
def nY (zs:List Value):List (Nat×Value)->List Value
 | []=>zs
 | (i,v)::r=>nY (zs.set i v) r
def wz (sz:TypeId->Nat):Nat->List (Nat×TypeId)->Bool
 | _,[]=>true
 | i,(o,T)::r=>Nat.beq o i&&Nat.beq (sz T) 1&&wz sz (i+1) r
theorem tQ {sz:TypeId->Nat}:∀{fs:List (Nat×TypeId)} {k:Nat},wz sz k fs=true->∀i p,fs[i]? = some p->p.1=k+i/\sz p.2=1
 | [],_,_,i,p,h=>by simp at h
 | (o,T)::r,k,hb,i,p,h=>by
  simp only[wz,Bool.and_eq_true] at hb
  cases i with
  | zero =>
   simp only[List.getElem?_cons_zero,Option.some.injEq] at h
   subst h;exact⟨Nat.eq_of_beq_eq_true hb.1.1,Nat.eq_of_beq_eq_true hb.1.2⟩
  | succ i =>
   simp only[List.getElem?_cons_succ] at h
   have:=tQ hb.2 i p h
   exact⟨aa,this.2⟩
theorem mX (place:Nat->Option (Nat×Nat)) (k:Nat) (h:∀i,i<k->place i=some (i,1)):∀(parts:List (Nat×Value)) (l:List Value),l.length=k->(∀p∈parts,p.1<k/\dJ p.2=true) ->
  Instr.fill place l.toArray parts=some (nY l parts).toArray
 | [],l,_,_=>rfl
 | (i,v)::r,l,hl,hall=>by
  obtain⟨hi,j⟩:=hall (i,v) List.mem_cons_self
  have u:v.cells=#[v]:=by cases v<;>first|(cases j;done)|rfl
  unfold Instr.fill
  simp only[h i hi,u]
  have y:¬(#[v].size≠1\/i+#[v].size>l.toArray.size):=by simp;omega
  simp only[List.size_toArray,List.length_cons,List.length_nil]
  have q:(decide ((0+1)≠1)||decide (i+(0+1)>l.length))=false:=by
   rw[Bool.or_eq_false_iff];exact⟨by decide,decide_eq_false aa⟩
  simp only[q,Bool.false_eq_true,if_false]
  have z:(#[v].zipIdx.foldl (fun cs (x:Value×Nat)=>cs.setIfInBounds (i+x.2) x.1) l.toArray)=(l.set i v).toArray:=by
   simp
  have t:=mX place k h r (l.set i v) (by simpa using hl) (fun p g=>hall p (List.mem_cons_of_mem _ g))
  simp only[nY]
  rw[<- t]
  congr 1
section
variable {P:Program} [ty:bA P] {G:ao} {qs:List FuncId} {c:World} {n:Nat} {h0:dx} {ops:Array Oper} {Q:Fr->ao->Prop} {rest:List Oper} {f:Fr} {m:ao}
variable {d:Option Tmp} {T T' tt:TypeId} {pos:String} {aft:Array Edge}
omit ty in
theorem rZ {i:Array Field} {pl:List (Nat×Nat)} (h:∀w,i.toList.map (fun fd=>(fd.offset,(sizeOf fd.type).run P w))=pl.map (fun p=>(p.1,Result.ok p.2 w))) (w:World) :
  ((i.mapM fun fd=>do pure (fd.offset,<- sizeOf fd.type):Sem (Array (Nat×Nat)))).run P w = .ok pl.toArray w:=by
 obtain⟨l⟩:=i
 simp only[List.mapM_toArray,Sem.run_map] at h ⊢
 have key:∀(l:List Field) (pl:List (Nat×Nat)),(∀w,l.map (fun fd=>(fd.offset,(sizeOf fd.type).run P w))=pl.map (fun p=>(p.1,Result.ok p.2 w))) ->
   ((l.mapM fun fd=>do pure (fd.offset,<- sizeOf fd.type):Sem (List (Nat×Nat)))).run P w = .ok pl w:=by
  intro l
  induction l with
  | nil=>intro pl h;cases pl with
   | nil=>simp
   | cons p pl=>exact absurd (h w) (by simp)
  | cons fd l j =>
   intro pl h
   cases pl with
   | nil=>exact absurd (h w) (by simp)
   | cons p pl =>
    have g:=fun w=>h w
    simp only[List.map_cons,List.cons.injEq,Prod.mk.injEq] at g
    have e:=j pl (fun w=>(g w).2)
    simp only[List.mapM_cons,Sem.run_bind,(g w).1.2,Result.andThen_ok,Sem.run_pure,e]
    rw[(g w).1.1]
 rw[key l pl h]
 rfl
theorem yl {C:Array (Nat×Operand)} {parts:List (Nat×Value)} {zs:List Value} {fs:List (Nat×TypeId)} (H:bA.tk P T = .st fs) (t:wz (bA.sz P) 0 fs=true) (r:dv P T=some zs)
  (u:(C.map fun(i,x)=>(i,ev f x))=parts.toArray) (q:parts.all (fun p=>Nat.blt p.1 fs.length&&dJ p.2)=true) (hlen:zs.length=fs.length) (hd:aE n d=true)
  (h:RO P G qs c n h0 ops Q rest (aV f d (.agg (nY zs parts).toArray)) m):RO P G qs c n h0 ops Q (⟨d,.build T C,tt,pos,aft,none⟩::rest) f m:=by
 refine oO (fun w=>?_) hd h
 obtain⟨k,hf,hl⟩:=v9 H
 unfold dv at r
 simp only[Option.bind_eq_some_iff,Option.map_eq_some_iff] at r
 obtain⟨i,hi,z,r,rfl⟩:=r
 have A:k.size=fs.length:=by rw[<- hl];simp
 have gz:∀w,(k.mapM fun fd=>do pure (fd.offset,<- sizeOf fd.type):Sem (Array (Nat×Nat))).run P w = .ok ((List.range fs.length).map fun i=>(i,1)).toArray w:=fun w=>by
  refine rZ (fun w=>?_) w
  apply List.ext_getElem?
  intro j;by_cases y:j<fs.length
  ·have l:j<k.size:=aa
   have hg:=tQ t j (fs[j]) (by simp[y])
   have I:fs[j]? = some (k[j].offset,k[j].type):=by rw[<- hl];simp[l]
   have B:fs[j]=(k[j].offset,k[j].type):=by simpa[y] using I
   rw[B] at hg;simp only[Nat.zero_add] at hg
   have hs:=bP (P:=P) hg.2 aa w
   simp[y,l,hg.1,hs]
  ·have l:¬j<k.size:=aa
   rw[List.getElem?_eq_none (by simp;omega),List.getElem?_eq_none (by simp;omega)]
 have g:=mX (fun i=>((List.range fs.length).map fun i=>(i,1))[i]?) fs.length (fun i hi=>by simp[hi]) parts z.cells.toList hlen (fun p F=>by
  have:=List.all_eq_true.1 q p F
  simp only[Bool.and_eq_true] at this
  exact⟨by simpa[Nat.blt_eq] using this.1,this.2⟩)
 rw[u]
 simp only[Instr.build,Sem.run_bind,zeroValue,typeInfo,run_program,Result.andThen_ok,hi,Sem.run_pure,r,run_underlying hf,gz]
 simp only[Array.toArray_toList,List.getElem?_toArray] at g ⊢
 rw[g]
 rfl
def fO (f:Fr):List (Nat×Operand)->List (Nat×Value)
 | []=>[]
 | (i,x)::r=>(i,ev f x)::fO f r
omit ty in
theorem iA (f:Fr) (l:List (Nat×Operand)):(l.toArray.map fun(i,x)=>(i,ev f x))=(fO f l).toArray:=by
 rw[List.map_toArray]
 congr 1
 induction l with
 | nil=>rfl
 | cons p r g=>obtain⟨i,x⟩:=p;simp only[List.map_cons,fO,g]
theorem bU {l:List (Nat×Operand)} {zs vs:List Value} {fs:List (Nat×TypeId)} (k:bA.tk P T = .st fs) (j:wz (bA.sz P) 0 fs=true) (q:dv P T=some zs)
  (g:(fO f l).all (fun p=>Nat.blt p.1 fs.length&&dJ p.2)=true) (hlen:zs.length=fs.length) (i:nY zs (fO f l)=vs) (hd:aE n d=true)
  (h:RO P G qs c n h0 ops Q rest (aV f d (.agg vs.toArray)) m):RO P G qs c n h0 ops Q (⟨d,.build T l.toArray,tt,pos,aft,none⟩::rest) f m :=
 yl k j q (iA f l) g hlen hd (by rw[i];exact h)
theorem aK {x:Operand} {b o:Nat} {B:bk} {v:Value} (hx:ev f x = .pointer (some ⟨b,o,none⟩)) (p:lS (bA.tk P T)=true) (k:(b,B)∈m++G) (q:o<B.n) (l:B.g o=v)
  (hd:aE n d=true) (h:RO P G qs c n h0 ops Q rest (aV f d v) m):RO P G qs c n h0 ops Q (⟨d,.load T x,tt,pos,aft,none⟩::rest) f m:=by
 refine dX (aZ _) rfl hd (fun _ r w j i=>⟨w,i,.inl ?_⟩) (fun h=>by cases h) h
 have hb:w.heap[b]? = some B.obj:=by rw[i.1];exact j.has _ k
 simp[execOp,hx,Instr.loadAt,Instr.sureAddr,loadVar,gA p,mS hb q,l]
theorem gL {x:Operand} {b o s:Nat} {B:bk} (hx:ev f x = .pointer (some ⟨b,o,none⟩)) (q:zj (bA.tk P T)=true) (hs:bA.sz P T=s+1) (p:(b,B)∈m++G) (l:o+(s+1)<=B.n)
  (hd:aE n d=true) (h:RO P G qs c n h0 ops Q rest (aV f d (.agg (ej (s+1) fun i=>B.g (o+i)).toArray)) m):RO P G qs c n h0 ops Q (⟨d,.load T x,tt,pos,aft,none⟩::rest) f m:=by
 refine dX (aZ _) rfl hd (fun _ r w k j=>⟨w,j,.inl ?_⟩) (fun h=>by cases h) h
 have hb:w.heap[b]? = some B.obj:=by rw[j.1];exact k.has _ p
 simp[execOp,hx,Instr.loadAt,Instr.sureAddr,loadVar,kv q,bP hs aa,dY hb l]
theorem uO {w:World} {t e:TypeId} {i:TypeInfo} {s b o b' j:Nat} {B B':bk} {r:Bool} (A:bA.tk P T = .ifc) (ht:bA.tk P t = .ptr e) (hi:P.info? t=some i) (g:i.comparable=true) (hs:bA.sz P e=s+1)
  (z:(b=b'/\r=decide (o=j))\/(b≠b'/\r=false/\w.heap[b]? = some B.obj/\w.heap[b']? = some B'.obj/\B.fr=(0,0)/\B'.fr=(0,0))) :
  (Op.equal T (.iface t (.pointer (some ⟨b,o,none⟩))) (.iface t (.pointer (some ⟨b',j,none⟩)))).run P w = .ok r w:=eV fun k=>by
 obtain⟨ms,u⟩:=v_ A
 rcases z with⟨rfl,rfl⟩|⟨l,rfl,q,y,hf,p⟩
 ·have:(({ block:=b,off:=o }:Addr)=={ block:=b,off:=j })=decide (o=j):=by
   by_cases h:o=j
   ·subst h;simp
   ·simp[h]
  simp[Op.equalIn,run_underlying u,typeInfo,hi,g,run_underlying (qB ht),bP hs aa,sameAddr,this]
 ·have s1:w.shape? b=some (B.T,B.n):=by simp[World.shape?,q,bk.obj,bk.size]
  have s2:w.shape? b'=some (B'.T,B'.n):=by simp[World.shape?,y,bk.obj,bk.size]
  have z1:∀o,w.frozen? ⟨b,o,none⟩=false:=pL q hf
  have z2:∀o,w.frozen? ⟨b',o,none⟩=false:=pL y p
  simp[Op.equalIn,run_underlying u,typeInfo,hi,g,run_underlying (qB ht),bP hs aa,sameAddr,l,z1,z2,noView,viewAt,s1,s2,mayBeOne,stringish]
theorem gn {x y:Operand} {t e:TypeId} {i:TypeInfo} {s b o b' q:Nat} {B B':bk} {r:Bool} (hx:ev f x = .iface t (.pointer (some ⟨b,o,none⟩))) (z:ev f y = .iface t (.pointer (some ⟨b',q,none⟩))) (J:bA.tk P T = .ifc) (ht:bA.tk P t = .ptr e) (hi:P.info? t=some i) (k:i.comparable=true)
  (hs:bA.sz P e=s+1) (C:(b=b'/\r=decide (o=q))\/(b≠b'/\r=false/\(b,B)∈m++G/\(b',B')∈m++G/\B.fr=(0,0)/\B'.fr=(0,0))) (hd:aE n d=true)
  (h:RO P G qs c n h0 ops Q rest (aV f d (.bool r)) m):RO P G qs c n h0 ops Q (⟨d,.binOp .eql T x y T',tt,pos,aft,none⟩::rest) f m:=by
 have j:∀g w,ed h0 G m g->At c g w->(execOp (ev f) ⟨d,.binOp .eql T x y T',tt,pos,aft,none⟩).run P w = .ok (.value (.bool r)) w:=fun g w p l=>by
  have I:(Op.equal T (.iface t (.pointer (some ⟨b,o,none⟩))) (.iface t (.pointer (some ⟨b',q,none⟩)))).run P w = .ok r w:=by
   refine uO (B:=B) (B':=B') J ht hi k hs ?_
   rcases C with u|⟨u,A,F,K,M,H⟩
   ·exact .inl u
   ·exact .inr ⟨u,A,by rw[l.1];exact p.has _ F,by rw[l.1];exact p.has _ K,M,H⟩
  simp[execOp,hx,z,eqGuard,binOp,I]
 exact dX (aZ _) rfl hd (fun _ g w p l=>⟨w,l,.inl (j g w p l)⟩) (fun h=>by cases h) h
omit ty in
theorem E2 {g:Code} {Q:Exit->Fr->ao->Prop} (h:((m++G).map (·.1)).Nodup->J P G c n h0 g Q f m):J P G c n h0 g Q f m :=
 fun a w i r j o=>h o.nodup a w i r j o
end
end Go.Eng
