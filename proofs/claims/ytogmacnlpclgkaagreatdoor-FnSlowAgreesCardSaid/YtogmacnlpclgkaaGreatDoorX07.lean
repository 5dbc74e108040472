/- Texts 07. -/
import Derived.Laws.BytesString
import Derived.Test.YtogmacnlpclgkaaGreatDoorX06
set_option linter.all false
namespace Go.Eng
open Go
def tR (z:Nat->Nat) (n:Nat):ByteArray:=⟨((List.range n).map fun i=>UInt8.ofNat (z i)).toArray⟩
theorem qJ {z g:Nat->Nat} {n:Nat} (h:∀i,i<n->z i=g i):tR z n=tR g n:=by
 unfold tR
 congr 2
 apply List.map_congr_left
 intro i hi
 rw[h i (List.mem_range.1 hi)]
theorem tS (z:Nat->Nat):∀(l:List Nat) (a:Array UInt8),(l.map fun i=>((z i:Nat):Int)).foldl (fun r n=>ByteArray.push r (UInt8.ofNat n.toNat)) ⟨a⟩=⟨a++(l.map fun i=>UInt8.ofNat (z i)).toArray⟩
 | [],a=>by simp
 | i::l,a=>by
  simp only[List.map_cons,List.foldl_cons,Int.toNat_natCast]
  rw[show ByteArray.push ⟨a⟩ (UInt8.ofNat (z i))=⟨a.push (UInt8.ofNat (z i))⟩ from rfl,tS z l]
  congr 1
  apply Array.toList_inj.1
  simp
section
variable {P:Program} [ty:bA P] {G:ao} {qs:List FuncId} {c:World} {n:Nat} {h0:dx} {ops:Array Oper} {Q:Fr->ao->Prop} {rest:List Oper} {f:Fr} {m:ao}
variable {d:Option Tmp} {T T' tt:TypeId} {pos:String} {aft:Array Edge}
omit ty in
theorem A6 {M:ao} {g:Option Addr} {len cap:Nat} {z:Nat->Nat} (l:aU M g len cap z) {w:World} (h:∀p∈M,w.heap[p.1]? = some p.2.obj):(Conv.bytesToString (.slice g len cap)).run P w = .ok (.string (tR z len)) w:=by
 rcases l.is with⟨rfl,rfl,rfl⟩|⟨b,o,B,rfl,k,hf,hg⟩
 ·unfold Conv.bytesToString
  rw[Sem.run_pure]
  rfl
 ·have hb:=h _ k
  rw[run_bytesToString w ⟨b,o,none⟩ len cap ((List.range len).map fun i=>((z i:Nat):Int))]
  ·have e:=tS z (List.range len) #[]
   rw[show(⟨#[]⟩:ByteArray)=ByteArray.empty from rfl] at e
   rw[e]
   congr 2
   unfold tR;simp
  ·rw[run_loadCells w ⟨b,o,none⟩ len (fun i=>.int .u8 (z i)) (fun j q=>by rw[eU,<- hg j q];exact mS hb (by have:=hf aa;show o+j<B.n;omega))]
   congr 1
   apply Array.toList_inj.1
   simp[Function.comp_def]
theorem pO {x:Operand} {i:Option Addr} {len cap e:Nat} {z:Nat->Nat} (u:aU (m++G) i len cap z) (hx:ev f x = .slice i len cap) (A:bA.tk P T = .sl e) (y:bA.tk P e = .int .u8) (g:bA.tk P T' = .string)
  (t:qs.contains (1000000+1000*T+T')=true) (hd:aE n d=true) (h:RO P G qs c n h0 ops Q rest (aV f d (.string (tR z len))) m):RO P G qs c n h0 ops Q (⟨d,.convert T T' x,tt,pos,aft,none⟩::rest) f m:=by
 refine dX we rfl hd (fun _ B w r q=>⟨w,q,.inl ?_⟩) (fun h0=>?_) h
 ·have k:=run_convert_bytes_string (P:=P) w T T' e i len cap (eR A) (ef y) (kF g)
  rw[A6 u (fun p j=>by rw[q.1];exact r.has p j)] at k
  simp[execOp,hx,k]
 ·exfalso
  have l:(if qs.contains (1000000+1000*T+T')=true then 1 else 0)=0:=h0
  rw[ai t] at l;cases l
omit ty in
theorem wI {x y:Operand} {a b:ByteArray} {r:Bool} (hx:ev f x = .string a) (g:ev f y = .string b) (i:P.underlying T=some .string) (j:(a.toList==b.toList)=r) (hd:aE n d=true)
  (h:RO P G qs c n h0 ops Q rest (aV f d (.bool r)) m):RO P G qs c n h0 ops Q (⟨d,.binOp .eql T x y T',tt,pos,aft,none⟩::rest) f m:=by
 refine dX (aZ _) rfl hd (fun _ p w l k=>⟨w,k,.inl ?_⟩) (fun h=>by cases h) h
 have _:=i
 simp[execOp,hx,g,eqGuard,binOp,Op.stringOp,j]
omit ty in
theorem tT {x y:Operand} {a b r:Bool} (hx:ev f x = .bool a) (g:ev f y = .bool b) (i:P.underlying T=some .bool) (j:(!(a==b))=r) (hd:aE n d=true)
  (h:RO P G qs c n h0 ops Q rest (aV f d (.bool r)) m):RO P G qs c n h0 ops Q (⟨d,.binOp .neq T x y T',tt,pos,aft,none⟩::rest) f m:=by
 refine dX (aZ _) rfl hd (fun _ q w p l=>⟨w,l,.inl ?_⟩) (fun h=>by cases h) h
 have:(Op.equal T (.bool a) (.bool b)).run P w = .ok (a==b) w:=eV fun k=>by simp[Op.equalIn,run_underlying i]
 simp[execOp,hx,g,eqGuard,binOp,this,<- j]
theorem gc {l:List (Nat×Operand)} {zs vs:List Value} {len e:Nat} (t:bA.tk P T = .arr len e) (hs:bA.sz P e=1) (k:dv P T=some zs)
  (j:(fO f l).all (fun p=>Nat.blt p.1 len&&dJ p.2)=true) (hlen:zs.length=len) (q:nY zs (fO f l)=vs) (hd:aE n d=true)
  (h:RO P G qs c n h0 ops Q rest (aV f d (.agg vs.toArray)) m):RO P G qs c n h0 ops Q (⟨d,.build T l.toArray,tt,pos,aft,none⟩::rest) f m:=by
 refine oO (fun w=>?_) hd h
 unfold dv at k
 simp only[Option.bind_eq_some_iff,Option.map_eq_some_iff] at k
 obtain⟨i,hi,z,k,rfl⟩:=k
 have g:=mX (fun i=>some (i*1,1)) len (fun i hi=>by simp) (fO f l) z.cells.toList hlen (fun p r=>by
  have:=List.all_eq_true.1 j p r
  simp only[Bool.and_eq_true] at this
  exact⟨by simpa[Nat.blt_eq] using this.1,this.2⟩)
 rw[q] at g
 rw[iA]
 simp only[Instr.build,Sem.run_bind,zeroValue,typeInfo,run_program,Result.andThen_ok,hi,Sem.run_pure,k,run_underlying (qC t),bP hs aa]
 simp only[Array.toArray_toList] at g
 rw[g]
 rfl
theorem A8 {x y:Operand} {vs:List Value} {k:IntKind} {I:Int} {i len e:Nat} {v:Value} (hx:ev f x = .agg vs.toArray) (j:ev f y = .int k I) (g:I=(i:Int)) (p:bA.tk P T = .arr len e) (hs:bA.sz P e=1) (q:lS (bA.tk P e)=true)
  (hi:i<len) (l:vs[i]? = some v) (hd:aE n d=true) (h:RO P G qs c n h0 ops Q rest (aV f d v) m):RO P G qs c n h0 ops Q (⟨d,.index T x y,tt,pos,aft,none⟩::rest) f m:=by
 subst g
 refine cY rfl rfl hd (fun w=>?_) h
 simp[execOp,hx,j,Instr.index,asIntOf,run_underlying (qC p),hi,bP hs aa,part,gA q,l]
omit ty in
theorem av.freeze {fm pre:ao} {fn:FuncId} {args:Array Value} {R:Value->ao->Prop} (t:av P (fm++G) fn args pre R):av P G fn args (pre++fm) (fun v m'=>∃i,R v i/\m'=i++fm):=by
 intro c h w A o
 have l:(pre++fm).keys=pre.keys++fm.keys:=by unfold ao.keys;rw[List.map_append]
 have o1:ed ⟨h,pre.keys,false⟩ (fm++G) pre h :=
  {size:=o.size,has:=fun p g=>o.has p (by rw[List.append_assoc];exact g),nodup:=by have:=o.nodup;rwa[List.append_assoc] at this,
   known:=fun p g=>.inl (List.mem_map_of_mem g),old:=fun _ _ _=>rfl,ex:=fun h=>by cases h }
 refine(t c h w A o1).mono ?_
 rintro e w' ⟨v,i,y,rfl,q,k,z⟩
 refine⟨v,i++fm,y,rfl,q,?_,i,z,rfl⟩
 exact{
  size:=k.size,has:=fun p g=>k.has p (by rw[List.append_assoc] at g;exact g),nodup:=by have:=k.nodup;rwa[<- List.append_assoc] at this,
  known:=fun p g=>by
   rcases List.mem_append.1 g with r|r
   ·rcases k.known p r with j|j
    ·left;show p.1∈(pre++fm).keys;rw[l];exact List.mem_append.2 (.inl j)
    ·exact .inr j
   ·left;show p.1∈(pre++fm).keys;rw[l];exact List.mem_append.2 (.inr (List.mem_map_of_mem r)),
  old:=fun b hb u=>k.old b hb fun j=>u (by show b∈(pre++fm).keys;rw[l];exact List.mem_append.2 (.inl j)),
  ex:=fun h=>by cases h }
end
end Go.Eng
namespace Go.Eng
open Go
def Kp (m m':ao):Prop:=∀b B,(b,B)∈m->∃B':bk,(b,B')∈m'/\B'.n=B.n/\B'.fr=B.fr
theorem Kp.refl (m:ao):Kp m m:=fun _ B h=>⟨B,h,rfl,rfl⟩
theorem Kp.trans {a b c:ao} (h:Kp a b) (g:Kp b c):Kp a c:=fun x X hx=>by
 obtain⟨Y,k,i,p⟩:=h x X hx
 obtain⟨Z,q,j,l⟩:=g x Y k
 exact⟨Z,q,j.trans i,l.trans p⟩
theorem Kp.sub {a b:ao} (h:∀p,p∈a->p∈b):Kp a b:=fun _ B hx=>⟨B,h _ hx,rfl,rfl⟩
def wJ (v:Value) (m:ao):Prop:=v = .slice none 0 0\/∃b l c B,v = .slice (some ⟨b,0,none⟩) l c/\(b,B)∈m/\l<=c/\c<=B.n/\B.fr=(0,0)
theorem wJ.keep {v:Value} {m m':ao} (h:wJ v m) (k:Kp m m'):wJ v m':=by
 rcases h with h|⟨b,l,c,B,q,i,j,t,r⟩
 ·exact .inl h
 ·obtain⟨B',p,u,g⟩:=k b B i;exact .inr ⟨b,l,c,B',q,p,j,aa,by rw[g];exact r⟩
def nd (v:Value) (len:Nat) (D:Nat->Nat) (sm:ao):Prop :=
 (v = .slice none 0 0/\len=0/\sm=[]) \/
 ∃b cap B,v = .slice (some ⟨b,0,none⟩) len cap/\sm=[(b,B)]/\B.fr=(0,0)/\cap<=B.n/\len<=cap/\∀i,i<len->B.g i = .int .u8 (D i)
theorem nd.congr {v:Value} {len:Nat} {D g:Nat->Nat} {sm:ao} (h:nd v len D sm) (e:∀i,i<len->D i=g i):nd v len g sm:=by
 rcases h with h|⟨b,c,B,q,j,k,p,r,l⟩
 ·exact .inl h
 ·exact .inr ⟨b,c,B,q,j,k,p,r,fun i hi=>by rw[l i hi,e i hi]⟩
theorem nd.slIn {v:Value} {len:Nat} {D:Nat->Nat} {sm:ao} (h:nd v len D sm):wJ v sm:=by
 rcases h with⟨h,_,_⟩|⟨b,c,B,k,g,i,j,l,p⟩
 ·exact .inl h
 ·exact .inr ⟨b,len,c,B,k,by rw[g];exact List.mem_cons_self,l,j,i⟩
theorem nd.one {v:Value} {len:Nat} {D:Nat->Nat} {sm:ao} (h:nd v len D sm):dJ v=true:=by
 rcases h with⟨rfl,_,_⟩|⟨b,c,B,rfl,_⟩<;>rfl
theorem nd.form {v:Value} {len:Nat} {D:Nat->Nat} {sm:ao} (h:nd v len D sm):∃g cp,v = .slice g len cp:=by
 rcases h with⟨rfl,rfl,_⟩|⟨b,c,B,rfl,_⟩
 ·exact⟨_,_,rfl⟩
 ·exact⟨_,_,rfl⟩
theorem wJ.zero {v:Value} {m:ao} (h:wJ v m):(v = .slice none 0 0/\nd (.slice none 0 0) 0 (fun _=>0) [])\/∃b l c B r,v = .slice (some ⟨b,0,none⟩) l c/\l<=c/\m.Perm ((b,B)::r)/\nd (.slice (some ⟨b,0,none⟩) 0 c) 0 (fun _=>0) [(b,B)]:=by
 rcases h with h|⟨b,l,c,B,p,g,j,k,q⟩
 ·exact .inl ⟨h,.inl ⟨rfl,rfl,rfl⟩⟩
 ·obtain⟨s,t,e⟩:=List.append_of_mem g;exact .inr ⟨b,l,c,B,s++t,p,j,by rw[e];exact List.perm_middle,.inr ⟨b,c,B,rfl,rfl,q,k,Nat.zero_le _,fun i hi=>absurd hi (Nat.not_lt_zero _)⟩⟩
def wL (D:Nat->Nat) (len:Nat) (s:Nat->Nat):Nat->Nat:=fun i=>if i<len then D i else s (i-len)
section
variable {P:Program} [ty:bA P] {G:ao} {qs:List FuncId} {c:World} {n:Nat} {h0:dx} {ops:Array Oper} {Q:Fr->ao->Prop} {rest:List Oper} {f:Fr} {m:ao}
variable {d:Option Tmp} {T T' tt:TypeId} {pos:String} {aft:Array Edge}
omit ty in
theorem Ho {g:Code} {Q:Exit->Fr->ao->Prop} {f:Fr} {m jk:ao} (h:J P G c n h0 g Q f m):J P G c n h0 g Q f (m++jk) :=
 fun a w i r j o=>h a w i r j o.drop
theorem qK {x y:Operand} {t:Array TypeId} {T1 e s len cap k:Nat} {src:Nat->Value} {zs:List Value} {base:Option (Nat×Nat×bk)} {fm:ao} (hx:ev f x = .slice (gu base) len cap) (hT:t[0]? = some T) (ad:bA.tk P T = .sl e) (hs:bA.sz P e=s+1)
  (hz:dv P e=some zs) (al:bA.by_ P e<=64) (Y:t[1]? = some T1) (F:tw (bA.tk P T1)=true)
  (hm:m.Perm (jg base++fm)) (O:rt s len cap base)
  (M:k_ (m++G) (s+1) (ev f y) k src) (K:∀j,j<k*(s+1)->dJ (src j)=true) (hk:len+k<=2^40) (hex:h0.ex=false) (hd:aE n d=true)
  (h1:len+k<=cap->RO P G qs c n h0 ops Q rest (aV f d (.slice (gu base) (len+k) cap)) (ka s len k src base++fm))
  (h2:cap<len+k->∀b' h B',len+k<=h->B'.fr=(0,0)->B'.n=h*(s+1)->(∀i,i<len*(s+1)->B'.g i=jC base i)->(∀i,i<k*(s+1)->B'.g (len*(s+1)+i)=src i) ->
   (∀i,(len+k)*(s+1)<=i->i<h*(s+1)->B'.g i=bQ zs (i-(len+k)*(s+1)))->RO P G qs c n h0 ops Q rest (aV f d (.slice (some ⟨b',0,none⟩) (len+k) h)) ((b',B')::(jg base++fm))) :
  RO P G qs c n h0 ops Q (⟨d,.call ⟨.builtin .append,#[x,y],t⟩,tt,pos,aft,none⟩::rest) f m:=by
 refine ku rfl rfl hd fun hp w hw C a r=>?_
 have l:=hw.perm hm
 have hM:∀p∈m++G,w.heap[p.1]? = some p.2.obj:=fun p V=>by rw[C.1];exact hw.has p V
 have W:At c w.heap w:=⟨rfl,C.2⟩
 have am:pM w.heap s len cap k src base:=by
  rcases base with _|⟨b,o,B⟩
  ·exact O
  ·refine⟨?_,O.1,O.2.1,O.2.2,K⟩
   rw[C.1];exact l.has (b,B) (by simp[jg])
 obtain⟨v',w',hr,J,z⟩:=rX (P:=P) (tt:=tt) (base:=base) hT ad hs hz al ⟨T1,Y,F⟩ rfl M hM hk W am
 have u:(execOp a.eval ⟨d,.call ⟨.builtin .append,#[x,y],t⟩,tt,pos,aft,none⟩).run P w = .ok (.value v') w':=by
  rw[r.eval];simp only[execOp,resolve,Sem.run_bind,Sem.run_pure,Result.andThen_ok,invoke,builtin]
  rw[show(#[x,y].map (ev f))=#[ev f x,ev f y] by simp,hx,hr]
  rfl
 rcases z with⟨A,rfl,I⟩|⟨U,h,H,rfl,B',I,hf,ab,g1,g2,g3⟩
 ·refine cR u ⟨_,_,w'.heap,r.put hd _,J,?_,h1 A⟩
  rcases base with _|⟨b,o,B⟩
  ·have q:w'.heap=w.heap:=I
   rw[q,C.1]
   simpa[jg,ka] using l
  ·have q:fX w.heap b _ w'.heap:=I
   rw[C.1] at q;exact l.turned hex (tK.here (b:=b) (B:=B)) q
 ·refine cR u ⟨_,_,w'.heap,r.put hd _,J,?_,h2 U _ h B' H hf ab g1 g2 g3⟩
  rw[C.1] at I ⊢;exact l.pushed hex B' I
theorem uX {x y:Operand} {I:Array TypeId} {T1 e len k:Nat} {v:Value} {D s:Nat->Nat} {src:Nat->Value} {sm jk fm:ao} (hx:ev f x=v) (hT:I[0]? = some T) (O:bA.tk P T = .sl e) (hs:bA.sz P e=1)
  (hz:dv P e=some [.int .u8 0]) (U:bA.by_ P e<=64) (M:I[1]? = some T1) (z:tw (bA.tk P T1)=true)
  (Y:nd v len D sm) (hm:m.Perm (fm++(sm++jk))) (F:k_ (m++G) 1 (ev f y) k src) (u:∀j,j<k->src j = .int .u8 (s j)) (hk:len+k<=2^40) (hex:h0.ex=false) (hd:aE n d=true)
  (h:∀A l q,nd A (len+k) (wL D len s) l->dJ A=true->Kp (sm++jk) (l++q)->RO P G qs c n h0 ops Q rest (aV f d A) (fm++(l++q)))
  (hQ:∀f m m',aR m m'->Q f m'->Q f m:=by first|exact fun _ _ _ e h=>bZ e h|exact fun _ _ _ e h=>jD e h) :
  RO P G qs c n h0 ops Q (⟨d,.call ⟨.builtin .append,#[x,y],I⟩,tt,pos,aft,none⟩::rest) f m:=by
 have C:∀j,j<k*(0+1)->dJ (src j)=true:=fun j hj=>by rw[u j aa];rfl
 have J:m.Perm (sm++(jk++fm)):=hm.trans (List.perm_append_comm.trans (by rw[List.append_assoc]))
 have fin:∀A l q,nd A (len+k) (wL D len s) l->Kp (sm++jk) (l++q)->RO P G qs c n h0 ops Q rest (aV f d A) (l++(q++fm)):=fun A l q H K=>by
  have e:(l++(q++fm)).Perm (fm++(l++q)):=by rw[<- List.append_assoc];exact List.perm_append_comm
  exact cA (.of_perm e) (fun f=>hQ f _ _ (.of_perm e)) (h A l q H H.one K)
 rcases Y with⟨rfl,rfl,rfl⟩|⟨b,cap,B,rfl,rfl,hf,ho,ab,V⟩
 ·refine qK (s:=0) (base:=none) (cap:=0) hx hT O hs hz U M z J ⟨rfl,rfl⟩ F C hk hex hd (fun W=>?_) (fun W b' t B' H K h3 h4 h5 h6=>?_)
  ·obtain rfl:k=0:=aa;exact fin (.slice none 0 0) [] jk (.inl ⟨rfl,rfl,rfl⟩) (Kp.refl _)
  ·simp only[Nat.zero_add,Nat.mul_one,Nat.zero_mul,Nat.not_lt_zero] at *
   refine fin _ [(b',B')] jk (.inr ⟨b',t,B',rfl,rfl,K,aa,aa,fun i hi=>?_⟩) (Kp.sub fun p J=>List.mem_cons_of_mem _ J)
   unfold wL;rw[ah aa,h5 i aa,u i aa,Nat.sub_zero]
 ·refine qK (s:=0) (base:=some (b,0,B)) hx hT O hs hz U M z J ⟨hf,aa,ab⟩ F C hk hex hd (fun W=>?_) (fun W b' t B' H K h3 h4 h5 h6=>?_)
  ·refine fin _ [(b,_)] jk (.inr ⟨b,cap,_,rfl,rfl,hf,ho,W,fun i hi=>?_⟩) (fun b1 B1 H=>?_)
   ·show cQ B.g (0+len*(0+1)) (k*(0+1)) src i=_
    rw[show 0+len*(0+1)=len from aa,show k*(0+1)=k from aa];unfold wL;by_cases r:i<len
    ·rw[aP _ _ _ _ _ aa,ai r];exact V i r
    ·rw[bH _ _ _ _ _ aa aa,ah r];exact u _ aa
   ·rcases List.mem_cons.1 H with h|h
    ·obtain⟨rfl,rfl⟩:=Prod.mk.inj h;exact⟨_,List.mem_cons_self,rfl,rfl⟩
    ·exact⟨B1,List.mem_cons_of_mem _ h,rfl,rfl⟩
  ·simp only[Nat.zero_add,Nat.mul_one] at *
   refine fin _ [(b',B')] ((b,B)::jk) (.inr ⟨b',t,B',rfl,rfl,K,aa,H,fun i hi=>?_⟩) (Kp.sub fun p J=>List.mem_cons_of_mem _ J)
   unfold wL;by_cases r:i<len
   ·rw[ai r,h4 i r];simp only[jC,Nat.zero_add];exact V i r
   ·rw[ah r,<- u _ aa];have:=h5 (i-len) aa
    rw[show len+(i-len)=i from aa] at this;exact this
end
end Go.Eng
namespace Go.Eng
open Go
section
variable {P:Program} [ty:bA P] {G:ao} {qs:List FuncId} {c:World} {n:Nat} {h0:dx} {ops:Array Oper} {Q:Fr->ao->Prop} {rest:List Oper} {f:Fr} {m:ao}
variable {d:Option Tmp} {T T' tt:TypeId} {pos:String} {aft:Array Edge}
theorem oV {x y:Operand} {q:Array TypeId} {T1 e s len cap k:Nat} {zs:List Value} {base:Option (Nat×Nat×bk)} {fm:ao} (hx:ev f x = .slice (gu base) len cap) (hT:q[0]? = some T) (W:bA.tk P T = .sl e) (hs:bA.sz P e=s+1)
  (hz:dv P e=some zs) (Y:bA.by_ P e<=64) (U:q[1]? = some T1) (A:bA.tk P T1 = .int .i64)
  (hm:m.Perm (jg base++fm)) (K:rt s len cap base)
  (hy:ev f y = .int .i64 (k:Int)) (I:∀j,j<k*(s+1)->dJ ((bQ zs) j)=true) (hk:len+k<=2^40) (hex:h0.ex=false) (hd:aE n d=true)
  (h1:len+k<=cap->RO P G qs c n h0 ops Q rest (aV f d (.slice (gu base) (len+k) cap)) (ka s len k (bQ zs) base++fm))
  (h2:cap<len+k->∀b' h B',len+k<=h->B'.fr=(0,0)->B'.n=h*(s+1)->(∀i,i<len*(s+1)->B'.g i=jC base i)->(∀i,i<k*(s+1)->B'.g (len*(s+1)+i)=(bQ zs) i) ->
   (∀i,(len+k)*(s+1)<=i->i<h*(s+1)->B'.g i=bQ zs (i-(len+k)*(s+1)))->RO P G qs c n h0 ops Q rest (aV f d (.slice (some ⟨b',0,none⟩) (len+k) h)) ((b',B')::(jg base++fm))) :
  RO P G qs c n h0 ops Q (⟨d,.call ⟨.builtin .append,#[x,y],q⟩,tt,pos,aft,none⟩::rest) f m:=by
 refine ku rfl rfl hd fun hp w hw J a r=>?_
 have l:=hw.perm hm
 have O:At c w.heap w:=⟨rfl,J.2⟩
 have ab:pM w.heap s len cap k (bQ zs) base:=by
  rcases base with _|⟨b,o,B⟩
  ·exact K
  ·refine⟨?_,K.1,K.2.1,K.2.2,I⟩
   rw[J.1];exact l.has (b,B) (by simp[jg])
 obtain⟨v',w',hr,H,u⟩:=qH (P:=P) (tt:=tt) (base:=base) hT W hs hz Y ⟨T1,U,A⟩ rfl hy hk O ab
 have t:(execOp a.eval ⟨d,.call ⟨.builtin .append,#[x,y],q⟩,tt,pos,aft,none⟩).run P w = .ok (.value v') w':=by
  rw[r.eval];simp only[execOp,resolve,Sem.run_bind,Sem.run_pure,Result.andThen_ok,invoke,builtin]
  rw[show(#[x,y].map (ev f))=#[ev f x,ev f y] by simp,hx,hr]
  rfl
 rcases u with⟨z,rfl,F⟩|⟨M,h,C,rfl,B',F,hf,V,g1,g2,g3⟩
 ·refine cR t ⟨_,_,w'.heap,r.put hd _,H,?_,h1 z⟩
  rcases base with _|⟨b,o,B⟩
  ·have p:w'.heap=w.heap:=F
   rw[p,J.1]
   simpa[jg,ka] using l
  ·have p:fX w.heap b _ w'.heap:=F
   rw[J.1] at p;exact l.turned hex (tK.here (b:=b) (B:=B)) p
 ·refine cR t ⟨_,_,w'.heap,r.put hd _,H,?_,h2 M _ h B' C hf V g1 g2 g3⟩
  rw[J.1] at F ⊢;exact l.pushed hex B' F
theorem CP {x y:Operand} {F:Array TypeId} {T1 e k:Nat} {v:Value} {D:Nat->Nat} {sm fm:ao} (hx:ev f x=v) (hT:F[0]? = some T) (J:bA.tk P T = .sl e) (hs:bA.sz P e=1)
  (hz:dv P e=some [.int .u8 0]) (K:bA.by_ P e<=64) (I:F[1]? = some T1) (u:bA.tk P T1 = .int .i64)
  (O:nd v 0 D sm) (hm:m.Perm (sm++fm)) (hy:ev f y = .int .i64 (k:Int)) (hk:k<=2^40) (hex:h0.ex=false) (hd:aE n d=true)
  (Y:∀A l q,nd A k (fun _=>0) l->Kp sm (l++q)->RO P G qs c n h0 ops Q rest (aV f d A) (fm++(l++q)))
  (hQ:∀f m m',aR m m'->Q f m'->Q f m:=by first|exact fun _ _ _ e h=>bZ e h|exact fun _ _ _ e h=>jD e h) :
  RO P G qs c n h0 ops Q (⟨d,.call ⟨.builtin .append,#[x,y],F⟩,tt,pos,aft,none⟩::rest) f m:=by
 have h:∀A l q,nd A k (fun _=>0) l->Kp sm (l++q)->RO P G qs c n h0 ops Q rest (aV f d A) (l++(q++fm)):=fun A l q C H=>by
  have e:(l++(q++fm)).Perm (fm++(l++q)):=by rw[<- List.append_assoc];exact List.perm_append_comm
  exact cA (.of_perm e) (fun f=>hQ f _ _ (.of_perm e)) (Y A l q C H)
 have t:∀j,bQ [.int .u8 0] j = .int .u8 0:=fun j=>by
  show[Value.int .u8 0].getD (j%1) undef=_
  rw[Nat.mod_one];rfl
 have z:∀j,j<k*(0+1)->dJ (bQ [.int .u8 0] j)=true:=fun j _=>by rw[t];rfl
 rcases O with⟨rfl,_,rfl⟩|⟨b,cap,B,rfl,rfl,hf,ho,W,ab⟩
 ·refine oV (s:=0) (len:=0) (base:=none) (cap:=0) hx hT J hs hz K I u hm ⟨rfl,rfl⟩ hy z aa hex hd (fun M=>?_) (fun M b' r B' C H h3 h4 U h6=>?_)
  ·obtain rfl:k=0:=aa;exact h (.slice none 0 0) [] [] (.inl ⟨rfl,rfl,rfl⟩) (Kp.refl _)
  ·rw[Nat.zero_add] at *
   refine h _ [(b',B')] [] (.inr ⟨b',r,B',rfl,rfl,H,aa,C,fun i hi=>?_⟩) (fun _ _ V=>by cases V)
   have:=U i aa
   rw[show 0*(0+1)+i=i from aa,t] at this;exact this
 ·refine oV (s:=0) (len:=0) (base:=some (b,0,B)) hx hT J hs hz K I u hm ⟨hf,aa,W⟩ hy z aa hex hd (fun M=>?_) (fun M b' r B' C H h3 h4 U h6=>?_)
  ·rw[Nat.zero_add] at *
   refine h _ [(b,_)] [] (.inr ⟨b,cap,_,rfl,rfl,hf,ho,M,fun i hi=>?_⟩) (fun b1 B1 C=>?_)
   ·show cQ B.g (0+0*(0+1)) (k*(0+1)) (bQ [.int .u8 0]) i=_
    rw[bH _ _ _ _ _ aa aa,t];rfl
   ·rcases List.mem_cons.1 C with h|h
    ·obtain⟨rfl,rfl⟩:=Prod.mk.inj h;exact⟨_,List.mem_cons_self,rfl,rfl⟩
    ·cases h
  ·rw[Nat.zero_add] at *
   refine h _ [(b',B')] [(b,B)] (.inr ⟨b',r,B',rfl,rfl,H,aa,C,fun i hi=>?_⟩) (Kp.sub fun p V=>List.mem_cons_of_mem _ V)
   have:=U i aa
   rw[show 0*(0+1)+i=i from aa,t] at this;exact this
end
def kf (l:List Oper):List Nat->Option (List Oper)
 | []=>some []
 | i::r=>match l[i]?,kf l r with
  | some o,some t=>some (o::t)
  | _,_=>none
theorem tU {l:List Oper}:∀{g:List Nat} {j:List Oper},kf l g=some j->g.map (l.toArray[·]?)=j.map some
 | [],j,h=>by cases h;rfl
 | i::r,j,h=>by
  unfold kf at h;split at h
  ·rename_i o t h1 h2
   cases h;simp only[List.map_cons,tU h2]
   congr 1
   simpa using h1
  ·cases h
end Go.Eng
namespace Go.Eng
open Go
open Classical in
theorem an {a b:ao} (h:∀x,a.count x=b.count x:=by
  intro x
  first|(simp only[List.count_append,List.count_cons,List.count_nil];omega)|(simp only[List.append_eq,List.count_append,List.count_cons,List.count_nil];omega)|(simp only[bi,bf,ay,List.append_eq,List.count_append,List.count_cons,List.count_nil];omega)):a.Perm b:=List.perm_iff_count.2 h
theorem yo {m m':ao} (h:aR m m':=by first|exact aR.refl _|(apply f_.eqv;repeat(first|exact .nil|exact .all|exact .allN|exact .pref|exact .suf|(apply f_.cons;(focus ((repeat(first|exact .here (by first|with_reducible rfl|exact aW rfl rfl rfl rfl|exact rfl)|apply kc.there));done)))|apply f_.skip))):aR m m':=h
end Go.Eng
namespace Go.Eng
open Go
theorem AM [DecidableEq (Nat×bk)]:∀(p m:ao),(∀x,p.count x<=m.count x)->∃j,m.Perm (p++j)
 | [],m,_=>⟨m,.refl _⟩
 | a::p,m,h=>by
  have h1:=h a
  rw[List.count_cons_self] at h1
  have ha:a∈m:=List.count_pos_iff.1 aa
  have hp:=List.perm_cons_erase ha
  obtain⟨j,hj⟩:=AM p (m.erase a) fun x=>by
   have h2:=h x
   have h3:=hp.count_eq x
   simp only[List.count_cons] at h2 h3
   omega
  exact⟨j,hp.trans (.cons _ hj)⟩
section
variable {P:Program} [ty:bA P] {G:ao} {c:World} {fn:Func} {n:Nat} {h0:dx} {R:Value->ao->Prop} {f:Fr} {m:ao}
omit ty in
theorem bx (ts:List Nat) (hR:R (mq (ts.map f)) []) (hres:fn.results=(ts.map ResultVar.tmp).toArray:=by exact rfl):Ends P G c fn h0 R .ret f m:=ag ts (post:=[]) (junk:=m) hR hres (.refl _)
omit ty in
theorem cE (ts:List Nat) (post:ao) {junk:ao} (hR:R (mq (ts.map f)) post) (hs:aR m (post++junk)) (hres:fn.results=(ts.map ResultVar.tmp).toArray:=by exact rfl):Ends P G c fn h0 R .ret f m:=ag ts hR hres hs
omit ty in
theorem ii (ts:List Nat) (post:ao) (hR:R (mq (ts.map f)) post) (hs:∀(D:DecidableEq (Nat×bk)),∀x,@List.count _ (@instBEqOfDecidableEq _ D) x post<=@List.count _ (@instBEqOfDecidableEq _ D) x m:=by
  intro D x
  first|(simp only[List.count_append,List.count_cons,List.count_nil];omega)|(simp only[List.append_eq,List.count_append,List.count_cons,List.count_nil];omega)|(simp only[bi,bf,ay,List.append_eq,List.count_append,List.count_cons,List.count_nil];omega)) (hres:fn.results=(ts.map ResultVar.tmp).toArray:=by exact rfl):Ends P G c fn h0 R .ret f m:=by
 classical
 obtain⟨j,hj⟩:=AM post m (hs inferInstance)
 exact ag ts hR hres (.of_perm hj)
omit ty in
theorem bj {qs:List FuncId} {ops:Array Oper} {y:Code} {Q:Exit->Fr->ao->Prop} {m':ao} (e:aR m m') {l:List Oper} {f:Fr} (h:RO P G qs c n h0 ops (fun f m=>J P G c n h0 y Q f m) l f m'):RO P G qs c n h0 ops (fun f m=>J P G c n h0 y Q f m) l f m:=cA e (fun _ h=>bZ e h) h
end
theorem bE {P:Program} {G:ao} {fid:FuncId} {fn:Func} {cd:Code} {args:List Value} {m:ao} {R:Value->ao->Prop} (hf:P.funcs[fid]? = some fn) (h:∀c h0,h0.ex=false->J P G c fn.ntmps h0 cd (Ends P G c fn h0 R) (tM args) m) (hb:fn.body=some cd:=by exact rfl) (hn:args.length<=fn.ntmps:=by exact Nat.le_of_ble_eq_true rfl):av P G fid args.toArray m R:=EX hf hb hn h
theorem l8 {P:Program} {G:ao} {fid:FuncId} {fn:Func} {cd:Code} {args:List Value} {m:ao} {v:Value} (hf:P.funcs[fid]? = some fn) (h:∀c h0,J P (m++G) c fn.ntmps h0 cd (Ends P (m++G) c fn h0 (fun u _=>u=v)) (tM args) []) (hb:fn.body=some cd:=by exact rfl) (hn:args.length<=fn.ntmps:=by exact Nat.le_of_ble_eq_true rfl):aO P G fid args.toArray m v:=Cx hf hb hn h
theorem dT {B B':bk} (h1:B.n=B'.n:=by exact rfl) (h2:B.T=B'.T:=by exact rfl) (h3:B.fr=B'.fr:=by exact rfl) (h4:ej B.n B.g=ej B.n B'.g:=by exact rfl):B.obj=B'.obj:=aW h1 h2 h3 h4
theorem ci {b:Nat} {m:ao} {B B':bk} (h1:B.n=B'.n:=by exact rfl) (h2:B.T=B'.T:=by exact rfl) (h3:B.fr=B'.fr:=by exact rfl) (h4:ej B.n B.g=ej B.n B'.g:=by exact rfl):aR ((b,B)::m) ((b,B')::m):=.cons (aW h1 h2 h3 h4) (.refl _)
theorem gX {a b:ao} (h:aR a b:=by rw[List.append_nil];exact aR.refl _):aR a b:=h
theorem cC {vs:List Value} (h:vs.all dJ=true):∀v∈vs,dJ v=true:=fun _ hv=>List.all_eq_true.1 h _ hv
end Go.Eng
