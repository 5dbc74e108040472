/- Texts 06. -/
import Derived.Test.YtogmacnlpclgkaaGreatDoorX05
set_option linter.all false
namespace Go.Eng
open Go
theorem aN (c:Nat):(OfNat.ofNat c:Int)=((OfNat.ofNat c:Nat):Int):=rfl
theorem JU {a:Nat} (h:a<256):a<2^fJ .u8:=h
theorem I6 {a:Nat} (h:a<65536):a<2^fJ .u16:=h
theorem I7 {a:Nat} (h:a<4294967296):a<2^fJ .u32:=h
theorem GT {a:Nat} (h:a<18446744073709551616):a<2^fJ .u64:=h
theorem Hl {a:Nat} (h:a<32768):a<2^fJ .i16:=h
theorem Hm {a:Nat} (h:a<2147483648):a<2^fJ .i32:=h
theorem dL {a:Nat} (h:a<9223372036854775808):a<2^fJ .i64:=h
theorem GU (a:Nat):a&&&1=a%2:=Nat.and_two_pow_sub_one_eq_mod a 1
theorem GV (a:Nat):a&&&3=a%4:=Nat.and_two_pow_sub_one_eq_mod a 2
theorem GW (a:Nat):a&&&7=a%8:=Nat.and_two_pow_sub_one_eq_mod a 3
theorem CH (a:Nat):a&&&15=a%16:=Nat.and_two_pow_sub_one_eq_mod a 4
theorem CI (a:Nat):a&&&31=a%32:=Nat.and_two_pow_sub_one_eq_mod a 5
theorem CJ (a:Nat):a&&&63=a%64:=Nat.and_two_pow_sub_one_eq_mod a 6
theorem zt (a:Nat):a&&&255=a%256:=Nat.and_two_pow_sub_one_eq_mod a 8
theorem wE (a:Nat):a&&&4095=a%4096:=Nat.and_two_pow_sub_one_eq_mod a 12
theorem CK (a:Nat):a&&&16777215=a%16777216:=Nat.and_two_pow_sub_one_eq_mod a 24
theorem r6 {k:IntKind} (g:k.signed=false) (a:Nat):k.wrap (a:Int)=((a%2^k.bits:Nat):Int):=by
 cases k<;>first|(cases g;done)|(simp[IntKind.wrap,IntKind.bits,IntKind.signed])
section
variable {P:Program} [ty:bA P] {G:ao} {qs:List FuncId} {c:World} {n:Nat} {h0:dx} {ops:Array Oper} {Q:Fr->ao->Prop} {rest:List Oper} {f:Fr} {m:ao}
variable {d:Option Tmp} {T T' tt:TypeId} {pos:String} {aft:Array Edge}
omit ty in
theorem zu {x y:Operand} {k:IntKind} {A B:Int} {a b:Nat} (hx:ev f x = .int k A) (g:ev f y = .int k B) (hA:A=(a:Int)) (hB:B=(b:Int)) (hl:a+b<2^fJ k) (hd:aE n d=true)
  (h:RO P G qs c n h0 ops Q rest (aV f d (.int k ((a+b:Nat):Int))) m):RO P G qs c n h0 ops Q (⟨d,.binOp .add T x y T',tt,pos,aft,none⟩::rest) f m:=by
 subst hA hB;exact E8 a b hx g hl hd h
omit ty in
theorem zv {x y:Operand} {k:IntKind} {A B:Int} {a b:Nat} (hx:ev f x = .int k A) (i:ev f y = .int k B) (hA:A=(a:Int)) (hB:B=(b:Int)) (g:b<=a) (hl:a<2^fJ k) (hd:aE n d=true)
  (h:RO P G qs c n h0 ops Q rest (aV f d (.int k ((a-b:Nat):Int))) m):RO P G qs c n h0 ops Q (⟨d,.binOp .sub T x y T',tt,pos,aft,none⟩::rest) f m:=by
 subst hA hB;exact E9 a b hx i g hl hd h
omit ty in
theorem zw {x y:Operand} {k:IntKind} {A B:Int} {a b:Nat} (hx:ev f x = .int k A) (g:ev f y = .int k B) (hA:A=(a:Int)) (hB:B=(b:Int)) (hl:a*b<2^fJ k) (hd:aE n d=true)
  (h:RO P G qs c n h0 ops Q rest (aV f d (.int k ((a*b:Nat):Int))) m):RO P G qs c n h0 ops Q (⟨d,.binOp .mul T x y T',tt,pos,aft,none⟩::rest) f m:=by
 subst hA hB;exact E7 a b hx g hl hd h
omit ty in
theorem zx {x y:Operand} {k:IntKind} {A B:Int} {a b:Nat} (hx:ev f x = .int k A) (g:ev f y = .int k B) (hA:A=(a:Int)) (hB:B=(b:Int)) (hb:b≠0) (hl:a<2^fJ k) (hd:aE n d=true)
  (h:RO P G qs c n h0 ops Q rest (aV f d (.int k ((a/b:Nat):Int))) m):RO P G qs c n h0 ops Q (⟨d,.binOp .quo T x y T',tt,pos,aft,none⟩::rest) f m:=by
 subst hA hB;exact uT a b hx g hb hl hd h
omit ty in
theorem zC {x y:Operand} {k:IntKind} {A B:Int} {a b:Nat} (hx:ev f x = .int k A) (g:ev f y = .int k B) (hA:A=(a:Int)) (hB:B=(b:Int)) (hb:b≠0) (hd:aE n d=true)
  (h:RO P G qs c n h0 ops Q rest (aV f d (.int k ((a%b:Nat):Int))) m):RO P G qs c n h0 ops Q (⟨d,.binOp .rem T x y T',tt,pos,aft,none⟩::rest) f m:=by
 subst hA hB
 refine uN hx g aa hd ?_
 have:(a:Int).tmod b=((a%b:Nat):Int):=by rw[Int.tmod_eq_emod_of_nonneg aa];push_cast;rfl
 rw[this];exact h
omit ty in
theorem uU {x y:Operand} {k k':IntKind} {A B:Int} {a b:Nat} (hx:ev f x = .int k A) (g:ev f y = .int k' B) (hA:A=(a:Int)) (hB:B=(b:Int)) (hb:b<=k.bits) (hl:a*2^b<2^fJ k) (hd:aE n d=true)
  (h:RO P G qs c n h0 ops Q rest (aV f d (.int k ((a*2^b:Nat):Int))) m):RO P G qs c n h0 ops Q (⟨d,.binOp .shl T x y T',tt,pos,aft,none⟩::rest) f m:=by
 subst hA hB;exact m9 a b hx g hb hl hd h
omit ty in
theorem zD {x y:Operand} {k k':IntKind} {A B:Int} {a b:Nat} (hx:ev f x = .int k A) (i:ev f y = .int k' B) (hA:A=(a:Int)) (hB:B=(b:Int)) (g:k.signed=false) (hd:aE n d=true)
  (h:RO P G qs c n h0 ops Q rest (aV f d (.int k ((a*2^b%2^k.bits:Nat):Int))) m):RO P G qs c n h0 ops Q (⟨d,.binOp .shl T x y T',tt,pos,aft,none⟩::rest) f m:=by
 subst hA hB
 refine yg hx i aa hd ?_
 rw[Int.toNat_natCast]
 have e:(a:Int)*2^(min b k.bits)=((a*2^(min b k.bits):Nat):Int):=by push_cast;rfl
 rw[e,r6 g]
 have:a*2^(min b k.bits)%2^k.bits=a*2^b%2^k.bits:=by
  rcases Nat.le_total b k.bits with hb|hb
  ·rw[Nat.min_eq_left hb]
  ·rw[Nat.min_eq_right hb,Nat.mul_mod_left];obtain⟨j,rfl⟩:∃j,b=k.bits+j:=⟨b-k.bits,aa⟩
   rw[Nat.pow_add,Nat.mul_comm (2^k.bits),<- Nat.mul_assoc,Nat.mul_mod_left]
 rw[this];exact h
omit ty in
theorem zE {x y:Operand} {k k':IntKind} {A B:Int} {a b:Nat} (hx:ev f x = .int k A) (g:ev f y = .int k' B) (hA:A=(a:Int)) (hB:B=(b:Int)) (hb:b<=k.bits) (hd:aE n d=true)
  (h:RO P G qs c n h0 ops Q rest (aV f d (.int k ((a/2^b:Nat):Int))) m):RO P G qs c n h0 ops Q (⟨d,.binOp .shr T x y T',tt,pos,aft,none⟩::rest) f m:=by
 subst hA hB;exact E6 a b hx g hb hd h
omit ty in
theorem zF {x y:Operand} {k:IntKind} {A B:Int} {a b r:Nat} (hx:ev f x = .int k A) (i:ev f y = .int k B) (hA:A=(a:Int)) (hB:B=(b:Int)) (g:a<2^fJ k) (hb:b<2^fJ k) (j:a&&&b=r) (hd:aE n d=true)
  (h:RO P G qs c n h0 ops Q rest (aV f d (.int k (r:Int))) m):RO P G qs c n h0 ops Q (⟨d,.binOp .and T x y T',tt,pos,aft,none⟩::rest) f m:=by
 subst hA hB j;exact hJ a b hx i g hb hd h
omit ty in
theorem gb {x y:Operand} {k:IntKind} {A B:Int} {a b r:Nat} (hx:ev f x = .int k A) (i:ev f y = .int k B) (hA:A=(a:Int)) (hB:B=(b:Int)) (g:a<2^fJ k) (hb:b<2^fJ k) (j:a|||b=r) (hd:aE n d=true)
  (h:RO P G qs c n h0 ops Q rest (aV f d (.int k (r:Int))) m):RO P G qs c n h0 ops Q (⟨d,.binOp .or T x y T',tt,pos,aft,none⟩::rest) f m:=by
 subst hA hB j;exact nZ a b hx i g hb hd h
omit ty in
theorem fP {x y:Operand} {k:IntKind} {A B:Int} {a b:Nat} (hx:ev f x = .int k A) (i:ev f y = .int k B) (hA:A=(a:Int)) (hB:B=(b:Int)) (g:a<2^fJ k) (hb:b<2^fJ k) (hd:aE n d=true)
  (h:RO P G qs c n h0 ops Q rest (aV f d (.int k ((a ^^^ b:Nat):Int))) m):RO P G qs c n h0 ops Q (⟨d,.binOp .xor T x y T',tt,pos,aft,none⟩::rest) f m:=by
 subst hA hB
 have j:2^fJ k<=2^k.bits:=Nat.pow_le_pow_right aa (uS k)
 refine dq hx i rfl hd ?_
 rw[BitVec.toNat_xor,BitVec.ofInt_natCast,BitVec.ofInt_natCast,BitVec.toNat_ofNat,BitVec.toNat_ofNat,Nat.mod_eq_of_lt aa,Nat.mod_eq_of_lt aa,fG (Nat.xor_lt_two_pow g hb)]
 exact h
omit ty in
theorem eM {x y:Operand} {k:IntKind} {A B:Int} {a b:Nat} (hx:ev f x = .int k A) (i:ev f y = .int k B) (hA:A=(a:Int)) (hB:B=(b:Int)) (g:k.signed=false) (hd:aE n d=true)
  (h:RO P G qs c n h0 ops Q rest (aV f d (.int k (((a+b)%2^k.bits:Nat):Int))) m):RO P G qs c n h0 ops Q (⟨d,.binOp .add T x y T',tt,pos,aft,none⟩::rest) f m:=by
 subst hA hB
 refine dq hx i rfl hd ?_
 rw[show(a:Int)+b=((a+b:Nat):Int) by push_cast;rfl,r6 g];exact h
omit ty in
theorem dZ {x y:Operand} {k:IntKind} {A B:Int} {a b:Nat} (hx:ev f x = .int k A) (i:ev f y = .int k B) (hA:A=(a:Int)) (hB:B=(b:Int)) (g:k.signed=false) (hd:aE n d=true)
  (h:RO P G qs c n h0 ops Q rest (aV f d (.int k ((a*b%2^k.bits:Nat):Int))) m):RO P G qs c n h0 ops Q (⟨d,.binOp .mul T x y T',tt,pos,aft,none⟩::rest) f m:=by
 subst hA hB
 refine dq hx i rfl hd ?_
 rw[show(a:Int)*b=((a*b:Nat):Int) by push_cast;rfl,r6 g];exact h
theorem r7 {x:Operand} {k k':IntKind} {A:Int} {a:Nat} (hx:ev f x = .int k A) (hA:A=(a:Int)) (hs:bA.tk P T = .int k) (ht:bA.tk P T' = .int k') (hl:a<2^fJ k') (hd:aE n d=true)
  (h:RO P G qs c n h0 ops Q rest (aV f d (.int k' (a:Int))) m):RO P G qs c n h0 ops Q (⟨d,.convert T T' x,tt,pos,aft,none⟩::rest) f m:=by
 subst hA;exact mR hx hs ht (fG hl) hd h
theorem r8 {x:Operand} {k k':IntKind} {A:Int} {a:Nat} (hx:ev f x = .int k A) (hA:A=(a:Int)) (hs:bA.tk P T = .int k) (ht:bA.tk P T' = .int k') (g:k'.signed=false) (hd:aE n d=true)
  (h:RO P G qs c n h0 ops Q rest (aV f d (.int k' ((a%2^k'.bits:Nat):Int))) m):RO P G qs c n h0 ops Q (⟨d,.convert T T' x,tt,pos,aft,none⟩::rest) f m:=by
 subst hA;refine rU hx hs ht hd ?_
 rw[r6 g];exact h
theorem wF {x:Operand} {k:IntKind} {A:Int} {a:Nat} (hx:ev f x = .int k A) (hA:A=(a:Int)) (hs:bA.tk P T = .int k) (ht:bA.tk P T' = .int .u8) (hd:aE n d=true)
  (h:RO P G qs c n h0 ops Q rest (aV f d (.int .u8 ((a%256:Nat):Int))) m):RO P G qs c n h0 ops Q (⟨d,.convert T T' x,tt,pos,aft,none⟩::rest) f m :=
 r8 (k':=.u8) hx hA hs ht rfl hd h
theorem CL {x y:Operand} {b o len cap:Nat} {k:IntKind} {I:Int} {i e s:Nat} (hx:ev f x = .slice (some ⟨b,o,none⟩) len cap) (j:ev f y = .int k I) (g:I=(i:Int)) (l:bA.tk P T = .sl e) (hs:bA.sz P e=s+1)
  (p:i<len) (hd:aE n d=true)
  (h:RO P G qs c n h0 ops Q rest (aV f d (.pointer (some ⟨b,o+i*(s+1),none⟩))) m):RO P G qs c n h0 ops Q (⟨d,.indexAddr T x y,tt,pos,aft,none⟩::rest) f m:=by
 subst g;exact rV hx j l hs aa aa hd (by simpa using h)
theorem CM {x y:Operand} {b o len cap:Nat} {k:IntKind} {I:Int} {i e:Nat} (hx:ev f x = .slice (some ⟨b,o,none⟩) len cap) (j:ev f y = .int k I) (g:I=(i:Int)) (l:bA.tk P T = .sl e) (hs:bA.sz P e=1)
  (p:i<len) (hd:aE n d=true)
  (h:RO P G qs c n h0 ops Q rest (aV f d (.pointer (some ⟨b,o+i,none⟩))) m):RO P G qs c n h0 ops Q (⟨d,.indexAddr T x y,tt,pos,aft,none⟩::rest) f m:=by
 subst g;exact mi hx j l hs aa aa hd (by simpa using h)
theorem rA {x y:Operand} {b o len:Nat} {k:IntKind} {I:Int} {i e:Nat} (hx:ev f x = .pointer (some ⟨b,o,none⟩)) (j:ev f y = .int k I) (g:I=(i:Int)) (l:bA.tk P T = .arr len e) (hs:bA.sz P e=1)
  (p:i<len) (hd:aE n d=true)
  (h:RO P G qs c n h0 ops Q rest (aV f d (.pointer (some ⟨b,o+i,none⟩))) m):RO P G qs c n h0 ops Q (⟨d,.indexAddr T x y,tt,pos,aft,none⟩::rest) f m:=by
 subst g;exact lp hx j l hs aa aa hd (by simpa using h)
theorem zG {x y:Operand} {b o len:Nat} {k:IntKind} {I:Int} {i e s:Nat} (hx:ev f x = .pointer (some ⟨b,o,none⟩)) (j:ev f y = .int k I) (g:I=(i:Int)) (l:bA.tk P T = .arr len e) (hs:bA.sz P e=s+1)
  (p:i<len) (hd:aE n d=true)
  (h:RO P G qs c n h0 ops Q rest (aV f d (.pointer (some ⟨b,o+i*(s+1),none⟩))) m):RO P G qs c n h0 ops Q (⟨d,.indexAddr T x y,tt,pos,aft,none⟩::rest) f m:=by
 subst g;exact qD hx j l hs aa aa hd (by simpa using h)
def bn (k:IntKind) (n:Nat) (x:Nat->Nat) (T:TypeId):bk:=⟨n,fun i=>.int k ((x i:Nat):Int),T,(0,0)⟩
def cV (x:Nat->Nat) (i v:Nat):Nat->Nat:=fun j=>if j=i then v else x j
theorem bL (x:Nat->Nat) (i v:Nat):cV x i v i=v:=ai rfl
theorem bz (x:Nat->Nat) (i v j:Nat) (h:j≠i):cV x i v j=x j:=ah h
theorem E_ (k:IntKind) (n:Nat) (x:Nat->Nat) (T:TypeId) (i v:Nat):(bn k n x T).st i (.int k (v:Int))=bn k n (cV x i v) T:=by
 unfold bn bk.st
 congr 1
 funext j
 by_cases h:j=i
 ·subst h;rw[cG,bL]
 ·rw[aT _ _ _ _ h,bz _ _ _ _ h]
theorem r9 {x:Operand} {b o:Nat} {k:IntKind} {N:Nat} {y:Nat->Nat} {T1:TypeId} (hx:ev f x = .pointer (some ⟨b,o,none⟩)) (i:lS (bA.tk P T)=true) (g:ye m b (bn k N y T1)) (j:o<N) (hd:aE n d=true)
  (h:RO P G qs c n h0 ops Q rest (aV f d (.int k ((y o:Nat):Int))) m):RO P G qs c n h0 ops Q (⟨d,.load T x,tt,pos,aft,none⟩::rest) f m :=
 aF hx i g j rfl hd h
theorem qG {x:Operand} {b o:Nat} {k:IntKind} {N:Nat} {y:Nat->Nat} {T1:TypeId} (hx:ev f x = .pointer (some ⟨b,o,none⟩)) (i:lS (bA.tk P T)=true) (g:(b,bn k N y T1)∈G) (j:o<N) (hd:aE n d=true)
  (h:RO P G qs c n h0 ops Q rest (aV f d (.int k ((y o:Nat):Int))) m):RO P G qs c n h0 ops Q (⟨d,.load T x,tt,pos,aft,none⟩::rest) f m :=
 aK hx i (List.mem_append.2 (.inr g)) j rfl hd h
theorem ke {x y:Operand} {b o:Nat} {k:IntKind} {N v:Nat} {A:Int} {z:Nat->Nat} {T1:TypeId} {m':ao} (hx:ev f x = .pointer (some ⟨b,o,none⟩)) (i:ev f y = .int k A) (hA:A=(v:Int)) (l:bA.sz P T=1)
  (g:tK m b (bn k N z T1) (bn k N (cV z o v) T1) m') (j:o<N) (hex:h0.ex=false)
  (h:RO P G qs c n h0 ops Q rest f m'):RO P G qs c n h0 ops Q (⟨none,.store T x y,tt,pos,aft,none⟩::rest) f m:=by
 subst hA
 rw[<- E_] at g
 exact bD hx i l rfl g j rfl hex h
end
inductive mv (f:Fr):List Nat->List (Nat×Value)->Prop
 | nil:mv f [] []
 | cons {i:Nat} {v:Value} {l:List Nat} {r:List (Nat×Value)}:f i=v->mv f l r->mv f (i::l) ((i,v)::r)
section
variable {P:Program} [ty:bA P] {G:ao} {c:World} {n:Nat} {h0:dx} {f:Fr} {m:ao}
omit ty in
theorem mv.ok {l:List Nat} {r:List (Nat×Value)} (h:mv f l r):bS f r:=by
 induction h with
 | nil=>trivial
 | cons g _ i=>exact⟨g,i⟩
def pN (l r:List (Nat×Value)):List (Nat×Value):=match l with
 | []=>r
 | p::l=>p::pN l r
omit ty in
theorem r_ {j rest:Code} {Q i:Exit->Fr->ao->Prop} (live:List Nat) (g:List (Nat×Value)) (mem:ao) {vals:List (Nat×Value)}
  (p:J P G c n h0 j (fE (fun h m'=>bS h (pN g vals)/\aR m' mem) Q) f m)
  (l:∀h,J P G c n h0 rest i (lh h (pN g vals)) mem)
  (k:mv f live vals:=by repeat(first|exact mv.nil|(apply mv.cons;conv=>lhs;whnf))):J P G c n h0 j (fE (fun f m=>J P G c n h0 rest i f m) Q) f m:=by
 have _:=k
 exact iV _ mem p l
omit ty in
theorem rC {j rest:Code} {Q i:Exit->Fr->ao->Prop} (live:List Nat) (g:List (Nat×Value)) {vals:List (Nat×Value)}
  (p:J P G c n h0 j (fE (fun h m'=>bS h (pN g vals)/\aR m' m) Q) f m)
  (l:∀h,J P G c n h0 rest i (lh h (pN g vals)) m)
  (k:mv f live vals:=by repeat(first|exact mv.nil|(apply mv.cons;conv=>lhs;whnf))):J P G c n h0 j (fE (fun f m=>J P G c n h0 rest i f m) Q) f m:=by
 have _:=k
 exact iV _ m p l
theorem joined {f:Fr} {m m':ao} {l:List (Nat×Value)} (g:aR m m') (hs:bS f l:=by repeat(first|exact trivial|refine⟨by exact rfl,?_⟩)):bS f l/\aR m m':=⟨hs,g⟩
omit ty in
theorem bp {σ:Type} {i rest:Code} {Q j:Exit->Fr->ao->Prop} (live:List Nat) (g:σ->List (Nat×Value)) (mem:σ->ao) (inv:σ->Prop) {vals:List (Nat×Value)}
  (p:J P G c n h0 i (fE (fun h m'=>∃s,inv s/\bS h (pN (g s) vals)/\aR m' (mem s)) Q) f m)
  (k:∀s h,inv s->J P G c n h0 rest j (lh h (pN (g s) vals)) (mem s))
  (l:mv f live vals:=by repeat(first|exact mv.nil|(apply mv.cons;conv=>lhs;whnf))):J P G c n h0 i (fE (fun f m=>J P G c n h0 rest j f m) Q) f m:=by
 have _:=l
 exact CG (fun s=>pN (g s) vals) mem inv p k
omit ty in
theorem aH {σ:Type} {body:Code} {Q:Exit->Fr->ao->Prop} (live:List Nat) (g:σ->List (Nat×Value)) (mem:σ->ao) (inv:σ->Prop) (meas:σ->Nat) (i:σ) {vals:List (Nat×Value)}
  (k:aR m (mem i)) (hi:inv i)
  (round:∀s f,inv s->J P G c n h0 body (fE (fun j m'=>∃h,meas h<meas s/\inv h/\bS j (pN (g h) vals)/\aR m' (mem h)) Q) (lh f (pN (g s) vals)) (mem s))
  (l:mv f live vals:=by repeat(first|exact mv.nil|(apply mv.cons;conv=>lhs;whnf))) (hf:bS f (pN (g i) vals):=by repeat(first|exact trivial|refine⟨by exact rfl,?_⟩)):J P G c n h0 (.loop body) Q f m:=by
 have _:=l
 exact mP (fun s=>pN (g s) vals) mem inv meas i hf k hi round
end
end Go.Eng
namespace Go.Eng
open Go
theorem nE {a:Nat} {k:IntKind} (h:a<2^fJ k:=by first|exact JU (by omega)|exact I7 (by omega)|exact dL (by omega)|exact GT (by omega)|exact I6 (by omega)|exact Hl (by omega)|exact Hm (by omega)):a<2^fJ k:=h
theorem x6 {n:Int} {k:IntKind} (h:k.wrap n=n:=by first|exact IntWalk.i64_in _ (by omega)|exact IntWalk.u32_in _ (by omega)|exact IntWalk.u64_in _ (by omega)|exact IntWalk.u8_in _ (by omega)|exact IntWalk.u16_in _ (by omega)):k.wrap n=n:=h
theorem cF {f:Fr} {l:List (Nat×Value)} (h:bS f l:=by repeat(first|exact trivial|refine⟨by exact rfl,?_⟩)):bS f l:=h
end Go.Eng
namespace Go.Eng
open Go
structure aU (M:ao) (oa:Option Addr) (n cp:Nat) (x:Nat->Nat):Prop where
 le:n<=cp
 is:(oa=none/\n=0/\cp=0)\/∃b o B,oa=some ⟨b,o,none⟩/\(b,B)∈M/\(0<n->o+n<=B.n)/\∀i,i<n->B.g (o+i) = .int .u8 (x i)
def ek (g:Option Addr) (l cap:Nat):Option Addr:=match g with
 | none=>none
 | some ⟨b,o,s⟩=>some ⟨b,sOff o l 1 cap,s⟩
theorem aU.sub {M:ao} {j:Option Addr} {n g:Nat} {x:Nat->Nat} (v:aU M j n g x) {l h:Nat} (p:l<=h) (u:h<=n):aU M (ek j l g) (h-l) (g-l) (fun i=>x (l+i)):=by
 obtain⟨r,q⟩:=v
 rcases q with⟨rfl,y,t⟩|⟨b,o,B,rfl,k,hf,hg⟩
 ·exact⟨aa,.inl ⟨rfl,aa,aa⟩⟩
 ·refine⟨aa,.inr ⟨b,sOff o l 1 g,B,rfl,k,?_,fun i hi=>?_⟩⟩
  ·intro h0;have:=hf aa;unfold sOff;split<;>omega
  ·have:sOff o l 1 g=o+l:=by unfold sOff;rw[ah aa];omega
   rw[this,Nat.add_assoc];exact hg _ aa
theorem aU.cut {M:ao} {g:Option Addr} {n j:Nat} {x:Nat->Nat} (v:aU M g n j x) {h:Nat} (r:h<=n):aU M g h j x:=by
 obtain⟨p,l⟩:=v
 rcases l with⟨rfl,t,q⟩|⟨b,o,B,rfl,k,hf,hg⟩
 ·exact⟨aa,.inl ⟨rfl,aa,aa⟩⟩
 ·exact⟨aa,.inr ⟨b,o,B,rfl,k,fun h0=>by have:=hf aa;omega,fun i hi=>hg i aa⟩⟩
theorem aU.some {M:ao} {g:Option Addr} {n j:Nat} {x:Nat->Nat} (v:aU M g n j x) (h:0<n):∃b o,g = .some ⟨b,o,none⟩:=by
 rcases v.is with⟨_,i,_⟩|⟨b,o,B,i,_⟩
 ·omega
 ·exact⟨b,o,i⟩
theorem aU.congr {M:ao} {g:Option Addr} {n j:Nat} {x y:Nat->Nat} (v:aU M g n j x) (h:∀i,i<n->x i=y i):aU M g n j y:=by
 obtain⟨p,l⟩:=v
 rcases l with⟨rfl,r,q⟩|⟨b,o,B,rfl,k,hf,hg⟩
 ·exact⟨aa,.inl ⟨rfl,aa,aa⟩⟩
 ·exact⟨aa,.inr ⟨b,o,B,rfl,k,hf,fun i hi=>(hg i hi).trans (by rw[h i hi])⟩⟩
theorem aU.mono {M M':ao} {j:Option Addr} {n k:Nat} {x:Nat->Nat} (v:aU M j n k x) (h:∀p∈M,p∈M'):aU M' j n k x:=by
 obtain⟨g,q⟩:=v
 rcases q with i|⟨b,o,B,i,l,r⟩
 ·exact⟨g,.inl i⟩
 ·exact⟨g,.inr ⟨b,o,B,i,h _ l,r⟩⟩
theorem aU.src {M:ao} {k:Option Addr} {n h:Nat} {x:Nat->Nat} (v:aU M k n h x):∃src,k_ M 1 (.slice k n h) n src/\∀i,i<n->src i = .int .u8 (x i):=by
 obtain⟨q,p⟩:=v
 by_cases h0:n=0
 ·subst h0;exact⟨fun _=>undef,.inr ⟨rfl,k,h,rfl⟩,fun i hi=>aa⟩
 ·rcases p with⟨rfl,t,r⟩|⟨b,o,B,rfl,l,hf,hg⟩
  ·omega
  ·exact⟨fun j=>B.g (o+j),.inl ⟨b,o,h,B,rfl,l,by have:=hf aa;omega,rfl⟩,hg⟩
theorem aU.add {M m:ao} {g:Option Addr} {n h:Nat} {x:Nat->Nat} (v:aU M g n h x):aU (m++M) g n h x:=v.mono fun p i=>List.mem_append.2 (.inr i)
section
variable {P:Program} [ty:bA P] {G:ao} {qs:List FuncId} {c:World} {n:Nat} {h0:dx} {ops:Array Oper} {Q:Fr->ao->Prop} {rest:List Oper} {f:Fr} {m:ao}
variable {d:Option Tmp} {T T' tt:TypeId} {pos:String} {aft:Array Edge}
theorem cT (l h:Nat) {M:ao} {N g:Nat} {z:Nat->Nat} {x:Operand} {lo hi:Option Operand} {i:Option Addr} {e:Nat} {L H:Int} (t:aU M i N g z) (hx:ev f x = .slice i N g) (p:bA.tk P T = .sl e) (hs:bA.sz P e=1)
  (hl:dG f lo 0=some L) (j:dG f hi N=some H) (u:L=(l:Int)) (q:H=(h:Int)) (F:l<=h) (A:h<=g) (hd:aE n d=true)
  (k:RO P G qs c n h0 ops Q rest (aV f d (.slice (ek i l g) (h-l) (g-l))) m) :
  RO P G qs c n h0 ops Q (⟨d,.slice T x lo hi none,tt,pos,aft,none⟩::rest) f m:=by
 subst u q
 rcases t.is with⟨rfl,r,y⟩|⟨b,o,B,rfl,C,hf,hg⟩
 ·obtain rfl:N=0:=r;obtain rfl:g=0:=y;obtain rfl:h=0:=aa;obtain rfl:l=0:=aa;exact fY (s:=0) hx p hs hl j hd k
 ·refine iU (s:=0) hx p hs hl j aa aa aa hd ?_
  simpa[ek] using k
theorem fu (h:Nat) {M:ao} {N g:Nat} {z:Nat->Nat} {x:Operand} {hi:Option Operand} {oa:Option Addr} {e:Nat} {H:Int} (p:aU M oa N g z) (hx:ev f x = .slice oa N g) (q:bA.tk P T = .sl e) (hs:bA.sz P e=1)
  (j:dG f hi N=some H) (k:H=(h:Int)) (i:h<=g) (hd:aE n d=true)
  (l:RO P G qs c n h0 ops Q rest (aV f d (.slice oa h g)) m) :
  RO P G qs c n h0 ops Q (⟨d,.slice T x none hi none,tt,pos,aft,none⟩::rest) f m:=by
 refine cT 0 h p hx q hs (lo:=none) rfl j rfl k aa i hd ?_
 have:ek oa 0 g=oa:=by
  unfold ek;split
  ·rfl
  ·rename_i b o s;unfold sOff;split<;>simp
 rw[this,Nat.sub_zero,Nat.sub_zero]
 exact l
theorem wG {x:Operand} {b o i N q:Nat} {z:Nat->Nat} (hx:ev f x = .pointer (some ⟨b,o+i,none⟩)) (p:lS (bA.tk P T)=true) (l:aU G (some ⟨b,o,none⟩) N q z) (j:i<N) (hd:aE n d=true)
  (h:RO P G qs c n h0 ops Q rest (aV f d (.int .u8 ((z i:Nat):Int))) m):RO P G qs c n h0 ops Q (⟨d,.load T x,tt,pos,aft,none⟩::rest) f m:=by
 rcases l.is with⟨g,_⟩|⟨b',r,B,g,k,hf,hg⟩
 ·cases g
 ·cases g;exact aK hx p (List.mem_append.2 (.inr k)) (by have:=hf aa;omega) (hg i j) hd h
end
end Go.Eng
namespace Go.Eng
open Go
theorem A2 {k:Nat} (h:k<=2^40):IntKind.i64.wrap (k:Int)=k:=fG (show k<2^63 from aa)
theorem tz {zs:List Value} {s:Nat} (hl:zs.length=s+1) (k:Nat):(if k*(s+1)=0 then #[] else Builtin.zeroCells zs.toArray k)=(ej (k*(s+1)) (bQ zs)).toArray:=by
 by_cases h0:k*(s+1)=0
 ·rw[ai h0,h0];rfl
 ·rw[ah h0];apply Array.ext_getElem?
  intro j;by_cases g:j<k*(s+1)
  ·rw[kx _ _ _ (by rw[hl];exact g)]
   simp[fF _ _ _ g]
  ·rw[Array.getElem?_eq_none (by rw[jB,hl];exact Nat.le_of_not_lt g),Array.getElem?_eq_none (by simp[bM];omega)]
section
variable {P:Program} [ty:bA P] {c:World} {T tt:TypeId}
theorem qH {w:World} {x y:Value} {W:Array TypeId} {e s len cap k:Nat} {base:Option (Nat×Nat×bk)} {zs:List Value} (hT:W[0]? = some T) (M:bA.tk P T = .sl e) (hs:bA.sz P e=s+1)
  (hz:dv P e=some zs) (a1:bA.by_ P e<=64) (u:∃T1,W[1]? = some T1/\bA.tk P T1 = .int .i64)
  (hx:x = .slice (gu base) len cap) (hy:y = .int .i64 (k:Int)) (hk:len+k<=2^40) (hc:At c w.heap w)
  (ha:pM w.heap s len cap k (bQ zs) base) :
  ∃v w',(Builtin.append_ W tt #[x,y]).run P w = .ok v w'/\At c w'.heap w' /\
   ((len+k<=cap/\v = .slice (gu base) (len+k) cap/\zk w.heap w'.heap s len k (bQ zs) base) \/
    (cap<len+k/\∃h,len+k<=h/\v = .slice (some ⟨w.heap.size,0,none⟩) (len+k) h /\
     ∃B:bk,w'.heap=w.heap.push B.obj/\B.fr=(0,0)/\B.n=h*(s+1) /\
      (∀i,i<len*(s+1)->B.g i=jC base i)/\(∀i,i<k*(s+1)->B.g (len*(s+1)+i)=bQ zs i)/\(∀i,(len+k)*(s+1)<=i->i<h*(s+1)->B.g i=bQ zs (i-(len+k)*(s+1))))):=by
 subst hx
 obtain⟨T1,u,bo⟩:=u
 subst hy
 have Y:=ef bo
 have am:IntKind.i64.wrap (k:Int)=k:=A2 aa
 obtain⟨i,z,hi,bv,a3,ab,a7⟩:=rn hs aa
 have V:z.cells=zs.toArray:=by
  unfold dv at hz;rw[hi] at hz;simp[ab] at hz
  rw[<- hz]
 have J:zs.length=s+1:=by rw[<- a7,V];simp
 have p:∀w',(typeInfo e).run P w' = .ok i w':=fun w'=>by simp[typeInfo,hi]
 have A:∀w',(asInt (.int .i64 (k:Int))).run P w' = .ok (k:Int) w':=fun w'=>by simp[asInt,asIntOf]
 have a5:∀w',(zeroValue e).run P w' = .ok z w':=fun w'=>by simp[zeroValue,typeInfo,hi,ab]
 have a0:¬((k:Int)<0):=aa
 have aw:¬((k:Int)*(i.bytes:Int)>2^48):=by
  have h1:k*i.bytes<=2^40*64:=Nat.mul_le_mul aa (by rw[a3];exact a1)
  have h2:((k*i.bytes:Nat):Int)=(k:Int)*(i.bytes:Int):=by push_cast;rfl
  omega
 have bd:(if k*(s+1)=0 then #[] else Builtin.zeroCells zs.toArray k)=(ej (k*(s+1)) (bQ zs)).toArray:=tz J k
 have I:∀w',((if k*(s+1)=0 then pure #[] else do pure (Builtin.zeroCells (<- zeroValue e).cells k)):Sem (Array Value)).run P w' = .ok (ej (k*(s+1)) (bQ zs)).toArray w':=fun w'=>by
  rw[<- bd];by_cases h0:k*(s+1)=0
  ·rw[ai h0,ai h0];rfl
  ·rw[ah h0,ah h0];simp only[Sem.run_bind,a5,Result.andThen_ok,Sem.run_pure,V]
 by_cases l:len+k<=cap
 ·
  rcases base with _|⟨b,o,B⟩
  ·obtain⟨rfl,rfl⟩:=ha;obtain rfl:k=0:=aa;refine⟨_,w,?_,hc,.inl ⟨l,rfl,rfl⟩⟩
   have ad:∀w',(asInt (.int .i64 0)).run P w' = .ok 0 w':=A
   have be:IntKind.i64.wrap 0=0:=rfl
   simp[Builtin.append_,gu,hT,u,run_underlying (eR M),run_underlying Y,bP hs aa,p,ad,be]
  ·obtain⟨hb,hf,ho,a2,F⟩:=ha;have bt:len*(s+1)+k*(s+1)<=cap*(s+1):=by rw[<- Nat.add_mul];exact Nat.mul_le_mul_right _ l
   obtain⟨w',hr,ba,t⟩:=dK (P:=P) (ej (k*(s+1)) (bQ zs)) 0 (o:=o+len*(s+1)) hb hf (by rw[bM];omega) (fun v hv=>by
    obtain⟨j,r⟩:=List.mem_iff_getElem?.1 hv
    have al:j<k*(s+1):=by
     have:=(List.getElem?_eq_some_iff.1 r).1;rwa[bM] at this
    rw[fF _ _ _ al] at r;cases r;exact F j al) hc
   refine⟨_,w',?_,ba,.inl ⟨l,rfl,?_⟩⟩
   ·simp only[Builtin.append_,gu,List.getElem?_toArray,List.getElem?_cons_zero,List.getElem?_cons_succ,hT,u,Sem.run_bind,run_underlying (eR M),run_underlying Y,bP hs aa,Result.andThen_ok,Sem.run_pure,if_true,A,am,ah a0,p,ah aw,Int.toNat_natCast,ai l,Bool.not_true,Bool.false_eq_true,if_false,I,eU,hr]
   ·refine t.congr ?_
    unfold bk.obj
    congr 1
    apply bk.cells_congr
    intro j r;rw[bM]
    change cQ B.g (o+len*(s+1)+0) (k*(s+1)) (ct (ej (k*(s+1)) (bQ zs))) j=cQ B.g (o+len*(s+1)) (k*(s+1)) (bQ zs) j
    by_cases h1:o+len*(s+1)<=j/\j<o+len*(s+1)+k*(s+1)
    ·rw[bH _ _ _ _ _ aa aa,bH _ _ _ _ _ aa aa,nV _ _ _ aa]
     rfl
    ·rw[aP _ _ _ _ _ aa,aP _ _ _ _ _ aa]
 ·
  have bu:¬((((len+k:Nat)):Int)>IntKind.i64.max/\(False\/i.bytes=0)):=by
   intro hh;have:IntKind.i64.max=9223372036854775807:=by rfl
   rw[this] at hh;omega
  have bs:¬(Builtin.nextslicecap (len+k) cap*i.bytes>2^48):=by
   have h1:=lT (len+k) cap aa
   have h2:Builtin.nextslicecap (len+k) cap*i.bytes<=(2*(len+k)+768)*64:=Nat.mul_le_mul h1 (by rw[a3];exact a1)
   omega
  let q:Question:=.appendCap (len+k) cap e
  let h:=q.cut (w.tape w.drawn q)
  have O:len+k<=h:=Nat.le_add_right _ _
  let cells:Array Value:=(ej (len*(s+1)) (jC base)).toArray++(ej (k*(s+1)) (bQ zs)).toArray++Builtin.zeroCells zs.toArray (h-(len+k))
  have hsz:cells.size=h*(s+1):=by
   simp only[cells,Array.size_append,List.size_toArray,bM,jB,J]
   rw[<- Nat.add_mul,<- Nat.add_mul]
   congr 1;omega
  have bq:(h-(len+k))*(s+1)=h*(s+1)-(len+k)*(s+1):=Nat.mul_sub_right_distrib _ _ _
  have bc:(len+k)*(s+1)=len*(s+1)+k*(s+1):=Nat.add_mul _ _ _
  let B:bk:=⟨h*(s+1),fun i=>cells.getD i undef,e,(0,0)⟩
  have hB:B.obj = .cells cells e:=by
   unfold bk.obj
   congr 1
   apply Array.ext_getElem?
   intro j;by_cases r:j<h*(s+1)
   ·rw[bk.get B j r];have br:j<cells.size:=by rw[hsz];exact r
    simp[B,br]
   ·rw[Array.getElem?_eq_none (by rw[bk.size];exact Nat.le_of_not_lt r),Array.getElem?_eq_none (by rw[hsz];exact Nat.le_of_not_lt r)]
  refine⟨.slice (some ⟨w.heap.size,0,none⟩) (len+k) h,{ w with drawn:=w.drawn+1,heap:=w.heap.push B.obj },?_,⟨rfl,hc.2⟩,.inr ⟨aa,h,O,rfl,B,rfl,rfl,rfl,?_,?_,?_⟩⟩
  ·rw[hB];have bb:q.forced=false:=rfl
   have K:(typeInfo e).run P w = .ok i w:=by simp[typeInfo,hi]
   have C:∀w',(typeInfo e).run P w' = .ok i w':=fun w'=>by simp[typeInfo,hi]
   have a6:∀w',(zeroValue e).run P w' = .ok z w':=fun w'=>by simp[zeroValue,typeInfo,hi,ab]
   have U:∀w',w'.heap=w.heap->(Builtin.firstCells (s+1) len (.slice (gu base) len cap)).run P w' = .ok (ej (len*(s+1)) (jC base)).toArray w':=by
    intro w' a8
    rcases base with _|⟨b,o,B⟩
    ·obtain⟨rfl,rfl⟩:=ha;simp[Builtin.firstCells,ej,gu]
    ·obtain⟨hb,hf,ho,a2,F⟩:=ha;simp only[Builtin.firstCells,gu]
     have:len*(s+1)<=cap*(s+1):=Nat.mul_le_mul_right _ a2
     exact dY (by rw[a8];exact hb) aa
   have ax:∀w' b',(askRoom b').run P w' = .ok () w':=fun w' b'=>by unfold askRoom;split<;>simp
   have bm:(choose q).run P w = .ok h { w with drawn:=w.drawn+1 }:=by
    simp[choose,Sem.run,bb,h]
   simp only[Builtin.append_,List.getElem?_toArray,List.getElem?_cons_zero,List.getElem?_cons_succ,hT,u,Sem.run_bind,run_underlying (eR M),run_underlying Y,bP hs aa,Result.andThen_ok,Sem.run_pure,if_true,A,am,ah a0,p,ah aw,Int.toNat_natCast,ah l,Bool.not_true,Bool.false_eq_true,if_false,true_or,and_true]
   have a4:¬((((len+k:Nat)):Int)>IntKind.i64.max):=by
    have:IntKind.i64.max=9223372036854775807:=by rfl
    rw[this];omega
   simp only[a4,if_false,Sem.run_bind,K,Result.andThen_ok,bs]
   rw[show Question.appendCap (len+k) cap e=q from rfl,bm];simp only[Result.andThen_ok,C,ax,U { w with drawn:=w.drawn+1 } rfl,I,a6,V,newRow,Sem.run_bind,run_newObj,Sem.run_pure]
   rfl
  ·intro j r;simp only[B,cells,Array.getD_eq_getD_getElem?]
   rw[Array.getElem?_append_left (by simp only[Array.size_append,List.size_toArray,bM];omega),Array.getElem?_append_left (by simp only[List.size_toArray,bM];exact r)]
   simp[fF _ _ _ r]
  ·intro j r;simp only[B,cells,Array.getD_eq_getD_getElem?]
   rw[Array.getElem?_append_left (by simp only[Array.size_append,List.size_toArray,bM];omega),Array.getElem?_append_right (by simp only[List.size_toArray,bM];omega)]
   simp[bM,fF _ _ _ r]
  ·intro j a9 b1;have H:((ej (len*(s+1)) (jC base)).toArray++(ej (k*(s+1)) (bQ zs)).toArray).size=(len+k)*(s+1):=by simp[bM,bc]
   simp only[B,cells,Array.getD_eq_getD_getElem?]
   rw[Array.getElem?_append_right (by rw[H];exact a9),H,kx _ _ _ (by rw[J,bq];omega)]
   rfl
end
section
variable {P:Program} [ty:bA P] {G:ao} {qs:List FuncId} {c:World} {n:Nat} {h0:dx} {ops:Array Oper} {Q:Fr->ao->Prop} {rest:List Oper} {f:Fr} {m:ao}
variable {d:Option Tmp} {T T' tt:TypeId} {pos:String} {aft:Array Edge}
theorem qI {x y:Operand} {q:Array TypeId} {T1 e s len cap k:Nat} {zs:List Value} {base:Option (Nat×Nat×bk)} {fm:ao} (hx:ev f x = .slice (gu base) len cap) (hT:q[0]? = some T) (W:bA.tk P T = .sl e) (hs:bA.sz P e=s+1)
  (hz:dv P e=some zs) (Y:bA.by_ P e<=64) (U:q[1]? = some T1) (A:bA.tk P T1 = .int .i64)
  (hm:m.Perm (jg base++fm)) (K:rt s len cap base)
  (hy:ev f y = .int .i64 (k:Int)) (I:∀j,j<k*(s+1)->dJ ((bQ zs) j)=true) (hk:len+k<=2^40) (hex:h0.ex=false) (hd:aE n d=true)
  (h1:len+k<=cap->RO P G qs c n h0 ops Q rest (aV f d (.slice (gu base) (len+k) cap)) (ka s len k (bQ zs) base++fm))
  (h2:cap<len+k->∀b' h B',len+k<=h->B'.fr=(0,0)->B'.n=h*(s+1)->(∀i,i<len*(s+1)->B'.g i=jC base i)->(∀i,i<k*(s+1)->B'.g (len*(s+1)+i)=(bQ zs) i) ->
   (∀i,(len+k)*(s+1)<=i->i<h*(s+1)->B'.g i=bQ zs (i-(len+k)*(s+1)))->RO P G qs c n h0 ops Q rest (aV f d (.slice (some ⟨b',0,none⟩) (len+k) h)) ((b',B')::fm)) :
  RO P G qs c n h0 ops Q (⟨d,.call ⟨.builtin .append,#[x,y],q⟩,tt,pos,aft,none⟩::rest) f m:=by
 refine ku rfl rfl hd fun hp w hw J a r=>?_
 have l:=hw.perm hm
 have O:At c w.heap w:=⟨rfl,J.2⟩
 have ab:pM w.heap s len cap k (bQ zs) base:=by
  rcases base with _|⟨b,o,B⟩
  ·exact K
  ·refine⟨?_,K.1,K.2.1,K.2.2,I⟩
   rw[J.1];exact l.has (b,B) (by simp[jg])
 obtain⟨v',w',hr,H,u⟩:=qH (P:=P) (tt:=tt) (base:=base) hT W hs hz Y ⟨T1,U,A⟩ rfl hy hk O ab
 have t:(execOp a.eval ⟨d,.call ⟨.builtin .append,#[x,y],q⟩,tt,pos,aft,none⟩).run P w = .ok (.value v') w':=by
  rw[r.eval];simp only[execOp,resolve,Sem.run_bind,Sem.run_pure,Result.andThen_ok,invoke,builtin]
  rw[show(#[x,y].map (ev f))=#[ev f x,ev f y] by simp,hx,hr]
  rfl
 rcases u with⟨z,rfl,F⟩|⟨M,h,C,rfl,B',F,hf,V,g1,g2,g3⟩
 ·refine cR t ⟨_,_,w'.heap,r.put hd _,H,?_,h1 z⟩
  rcases base with _|⟨b,o,B⟩
  ·have p:w'.heap=w.heap:=F
   rw[p,J.1]
   simpa[jg,ka] using l
  ·have p:fX w.heap b _ w'.heap:=F
   rw[J.1] at p;exact l.turned hex (tK.here (b:=b) (B:=B)) p
 ·refine cR t ⟨_,_,w'.heap,r.put hd _,H,?_,h2 M _ h B' C hf V g1 g2 g3⟩
  have o2:ed h0 G fm hp:=by
   rcases base with _|⟨b,o,B⟩
   ·simpa[jg] using l
   ·exact ed.tail l
  rw[J.1] at F ⊢;exact o2.pushed hex B' F
theorem uV {x y:Operand} {z:Array TypeId} {T1 e len k:Nat} {v:Value} {S:Nat->Value} {sm fm:ao} (hx:ev f x=v) (hT:z[0]? = some T) (F:bA.tk P T = .sl e) (hs:bA.sz P e=1)
  (hz:dv P e=some [.int .u8 0]) (H:bA.by_ P e<=64) (C:z[1]? = some T1) (q:bA.tk P T1 = .int .i64)
  (M:ky v len S sm) (hm:m.Perm (sm++fm)) (hy:ev f y = .int .i64 (k:Int)) (hk:len+k<=2^40) (hex:h0.ex=false) (hd:aE n d=true)
  (h:∀v' A,ky v' (len+k) (cQ S len k (bQ [.int .u8 0])) A->RO P G qs c n h0 ops Q rest (aV f d v') (A++fm)) :
  RO P G qs c n h0 ops Q (⟨d,.call ⟨.builtin .append,#[x,y],z⟩,tt,pos,aft,none⟩::rest) f m:=by
 have t:∀i,bQ [.int .u8 0] i = .int .u8 0:=fun i=>by simp[bQ,Nat.mod_one]
 have r:∀j,j<k->dJ (bQ [.int .u8 0] j)=true:=fun j _=>by rw[t];rfl
 rcases M with⟨rfl,rfl,rfl,u⟩|⟨b,cap,B,rfl,rfl,hf,ho,Y,I,u⟩
 ·refine qI (s:=0) (base:=none) (cap:=0) hx hT F hs hz H C q hm ⟨rfl,rfl⟩ hy (by simpa using r) hk hex hd (fun J=>?_) (fun J b' p B' O K h3 h4 U W=>?_)
  ·obtain rfl:k=0:=aa;exact h (.slice none 0 0) [] (.inl ⟨rfl,rfl,rfl,fun i=>by rw[eY];exact u i⟩)
  ·simp only[Nat.zero_add,Nat.mul_one,Nat.zero_mul,Nat.not_lt_zero] at *
   refine h _ [(b',B')] (.inr ⟨b',p,B',rfl,rfl,K,aa,O,fun i hi=>?_,fun i hi=>?_⟩)
   ·by_cases l:i<k
    ·rw[bH _ _ _ _ _ aa aa,U i l];rfl
    ·rw[aP _ _ _ _ _ aa,W i aa hi,t];exact(u i).symm
   ·rw[aP _ _ _ _ _ aa];exact u i
 ·refine qI (s:=0) (base:=some (b,0,B)) hx hT F hs hz H C q hm ⟨hf,aa,Y⟩ hy (by simpa using r) hk hex hd (fun J=>?_) (fun J b' p B' O K h3 h4 U W=>?_)
  ·refine h _ [(b,_)] (.inr ⟨b,cap,_,rfl,rfl,hf,ho,J,fun i hi=>?_,fun i hi=>?_⟩)
   ·show cQ B.g (0+len*(0+1)) (k*(0+1)) (bQ [.int .u8 0]) i=cQ S len k (bQ [.int .u8 0]) i
    rw[show 0+len*(0+1)=len from aa,show k*(0+1)=k from aa];by_cases l:len<=i/\i<len+k
    ·rw[bH _ _ _ _ _ l.1 l.2,bH _ _ _ _ _ l.1 l.2]
    ·rw[aP _ _ _ _ _ aa,aP _ _ _ _ _ aa];exact I i hi
   ·rw[aP _ _ _ _ _ aa];exact u i hi
  ·simp only[Nat.zero_add,Nat.mul_one] at *
   refine h _ [(b',B')] (.inr ⟨b',p,B',rfl,rfl,K,aa,O,fun i hi=>?_,fun i hi=>?_⟩)
   ·by_cases l:len<=i/\i<len+k
    ·rw[bH _ _ _ _ _ l.1 l.2];have:=U (i-len) aa
     rw[show len+(i-len)=i from aa] at this;exact this
    ·rw[aP _ _ _ _ _ aa];by_cases V:i<len
     ·rw[h4 i V];simp only[jC,Nat.zero_add];exact I i aa
     ·rw[W i aa hi,t];exact(u i aa).symm
   ·rw[aP _ _ _ _ _ aa];exact u i aa
theorem mw {x y:Operand} {g:Array TypeId} {T1 e len k:Nat} {v:Value} {S:Nat->Value} {sm fm:ao} (hx:ev f x=v) (F:g[0]? = some T) (p:bA.tk P T = .sl e) (hs:bA.sz P e=1)
  (H:dv P e=some [.int .u8 0]) (q:bA.by_ P e<=64) (u:g[1]? = some T1) (j:bA.tk P T1 = .int .i64)
  (t:ky v len S sm) (B:m.Perm (sm++fm)) (A:ev f y = .int .i64 (k:Int)) (C:len+k<=2^40) (hex:h0.ex=false) (hd:aE n d=true)
  (h:∀z l,ky z (len+k) (cQ S len k (fun _=>.int .u8 0)) l->RO P G qs c n h0 ops Q rest (aV f d z) (l++fm)) :
  RO P G qs c n h0 ops Q (⟨d,.call ⟨.builtin .append,#[x,y],g⟩,tt,pos,aft,none⟩::rest) f m:=by
 have r:bQ [.int .u8 0]=fun _=>.int .u8 0:=by funext i;simp[bQ,Nat.mod_one]
 exact uV hx F p hs H q u j t B A C hex hd (by rw[r];exact h)
theorem CN {x:Operand} {hi:Option Operand} {b o len cap e s h:Nat} {H:Int} (hx:ev f x = .slice (some ⟨b,o,none⟩) len cap) (k:bA.tk P T = .sl e) (hs:bA.sz P e=s+1)
  (j:dG f hi len=some H) (l:H=(h:Int)) (i:h<=cap) (hd:aE n d=true)
  (g:RO P G qs c n h0 ops Q rest (aV f d (.slice (some ⟨b,o,none⟩) h cap)) m) :
  RO P G qs c n h0 ops Q (⟨d,.slice T x none hi none,tt,pos,aft,none⟩::rest) f m:=by
 subst l;exact rz h hx k hs j i hd g
theorem CO {x:Operand} {lo hi:Option Operand} {b o len cap e l h:Nat} {L H:Int} (hx:ev f x = .slice (some ⟨b,o,none⟩) len cap) (q:bA.tk P T = .sl e) (hs:bA.sz P e=1)
  (hl:dG f lo 0=some L) (i:dG f hi len=some H) (t:L=(l:Int)) (j:H=(h:Int)) (r:l<=h) (g:h<=cap) (k:l<cap) (hd:aE n d=true)
  (p:RO P G qs c n h0 ops Q rest (aV f d (.slice (some ⟨b,o+l,none⟩) (h-l) (cap-l))) m) :
  RO P G qs c n h0 ops Q (⟨d,.slice T x lo hi none,tt,pos,aft,none⟩::rest) f m:=by
 subst t j;exact GS l h hx q hs hl i r g k hd p
theorem Hn (l h:Nat) {x:Operand} {lo hi:Option Operand} {b o len cap e s:Nat} {L H:Int} (hx:ev f x = .slice (some ⟨b,o,none⟩) len cap) (p:bA.tk P T = .sl e) (hs:bA.sz P e=s+1)
  (hl:dG f lo 0=some L) (g:dG f hi len=some H) (k:L=(l:Int)) (i:H=(h:Int)) (r:l<=h) (q:h<=cap) (hd:aE n d=true)
  (j:RO P G qs c n h0 ops Q rest (aV f d (.slice (some ⟨b,sOff o l (s+1) cap,none⟩) (h-l) (cap-l))) m) :
  RO P G qs c n h0 ops Q (⟨d,.slice T x lo hi none,tt,pos,aft,none⟩::rest) f m:=by
 subst k i
 refine iU (s:=s) hx p hs hl g aa aa aa hd ?_
 simpa using j
theorem zH {x:Operand} {hi:Option Operand} {b o k e s h:Nat} {H:Int} (hx:ev f x = .pointer (some ⟨b,o,none⟩)) (l:bA.tk P T = .arr k e) (hs:bA.sz P e=s+1)
  (j:dG f hi k=some H) (p:H=(h:Int)) (i:h<=k) (hd:aE n d=true)
  (g:RO P G qs c n h0 ops Q rest (aV f d (.slice (some ⟨b,o,none⟩) h k)) m) :
  RO P G qs c n h0 ops Q (⟨d,.slice T x none hi none,tt,pos,aft,none⟩::rest) f m:=by
 subst p;exact hG h hx l hs j i hd g
theorem zI {x:Operand} {lo hi:Option Operand} {b o k e l h:Nat} {L H:Int} (hx:ev f x = .pointer (some ⟨b,o,none⟩)) (r:bA.tk P T = .arr k e) (hs:bA.sz P e=1)
  (hl:dG f lo 0=some L) (i:dG f hi k=some H) (u:L=(l:Int)) (j:H=(h:Int)) (t:l<=h) (g:h<=k) (p:l<k) (hd:aE n d=true)
  (q:RO P G qs c n h0 ops Q rest (aV f d (.slice (some ⟨b,o+l,none⟩) (h-l) (k-l))) m) :
  RO P G qs c n h0 ops Q (⟨d,.slice T x lo hi none,tt,pos,aft,none⟩::rest) f m:=by
 subst u j;exact ym l h hx r hs hl i t g p hd q
omit ty in
theorem cA {m':ao} (e:aR m m'):∀{l:List Oper} {f:Fr},(∀f,Q f m'->Q f m)->RO P G qs c n h0 ops Q l f m'->RO P G qs c n h0 ops Q l f m
 | [],_,hQ,h=>hQ _ h
 | o::rest,f,hQ,h=>by
  obtain⟨hd,h⟩:=h;refine⟨hd,?_⟩
  rcases h with⟨g,h⟩|⟨g,h⟩
  ·refine .inl ⟨g,?_⟩
   split
   ·rename_i h0'
    rw[ai h0'] at h;obtain⟨v,j,k⟩:=h;exact⟨v,j,cA e hQ k⟩
   ·rename_i h0'
    rw[ah h0'] at h;split
    ·rename_i h1
     rw[ai h1] at h;obtain⟨v,j,k⟩:=h;exact⟨v,fun h w i=>j h w (i.eqv e),cA e hQ k⟩
    ·rename_i h1
     rw[ah h1] at h;exact fun p w i=>h p w (i.eqv e)
  ·exact .inr ⟨g,cA e hQ h⟩
theorem yn {s len:Nat} {v:Value} {cl:Nat->Value} {sm:ao} (h:dH s v len cl sm):dJ v=true:=by
 rcases h with⟨rfl,_⟩|⟨b,o,g,B,rfl,_⟩<;>rfl
theorem sd {len:Nat} {v:Value} {S:Nat->Value} {sm:ao} (h:ky v len S sm):dJ v=true:=by
 rcases h with⟨rfl,_⟩|⟨b,g,B,rfl,_⟩<;>rfl
omit ty in
theorem jD {fn:Func} {R:Value->ao->Prop} {e:Exit} {m':ao} (q:aR m m') (h:Ends P G c fn h0 R e f m'):Ends P G c fn h0 R e f m:=by
 cases e<;>first|exact h.elim|skip
 ·obtain⟨v,post,junk,k,i,j⟩:=h;exact⟨v,post,junk,fun a w g r l o=>k a w g r l (o.eqv q),q.trans i,j⟩
 ·obtain⟨v,post,junk,k,i,j⟩:=h;exact⟨v,post,junk,fun a w g r l o=>k a w g r l (o.eqv q),q.trans i,j⟩
theorem bg {x y:Operand} {l:Array TypeId} {T1 e s len k:Nat} {v:Value} {cl src:Nat->Value} {zs:List Value} {sm fm:ao} (hx:ev f x=v) (H:l[0]? = some T) (A:bA.tk P T = .sl e) (hs:bA.sz P e=s+1)
  (I:dv P e=some zs) (B:bA.by_ P e<=64) (z:l[1]? = some T1) (p:tw (bA.tk P T1)=true)
  (u:dH (s+1) v len cl sm) (J:m.Perm (sm++fm)) (t:k_ (m++G) (s+1) (ev f y) k src) (r:∀j,j<k*(s+1)->dJ (src j)=true) (F:len+k<=2^40) (hex:h0.ex=false) (hd:aE n d=true)
  (h:∀q g,dH (s+1) q (len+k) (fun i=>if i<len*(s+1) then cl i else src (i-len*(s+1))) g->dJ q=true->RO P G qs c n h0 ops Q rest (aV f d q) (fm++g))
  (hQ:∀f m m',aR m m'->Q f m'->Q f m:=by first|exact fun _ _ _ e h=>bZ e h|exact fun _ _ _ e h=>jD e h) :
  RO P G qs c n h0 ops Q (⟨d,.call ⟨.builtin .append,#[x,y],l⟩,tt,pos,aft,none⟩::rest) f m :=
 fZ hx H A hs I B z p u J t r F hex hd fun q g C=>cA (.of_perm List.perm_append_comm) (fun f=>hQ f _ _ (.of_perm List.perm_append_comm)) (h q g C (yn C))
theorem wH {x y:Operand} {i:Array TypeId} {T1 e len k:Nat} {v:Value} {S src:Nat->Value} {sm fm:ao} (hx:ev f x=v) (F:i[0]? = some T) (z:bA.tk P T = .sl e) (hs:bA.sz P e=1)
  (H:dv P e=some [.int .u8 0]) (A:bA.by_ P e<=64) (u:i[1]? = some T1) (l:tw (bA.tk P T1)=true)
  (t:ky v len S sm) (I:m.Perm (sm++fm)) (r:k_ (m++G) 1 (ev f y) k src) (q:∀j,j<k->dJ (src j)=true) (C:len+k<=2^40) (hex:h0.ex=false) (hd:aE n d=true)
  (h:∀p g,ky p (len+k) (cQ S len k src) g->dJ p=true->RO P G qs c n h0 ops Q rest (aV f d p) (fm++g))
  (hQ:∀f m m',aR m m'->Q f m'->Q f m:=by first|exact fun _ _ _ e h=>bZ e h|exact fun _ _ _ e h=>jD e h) :
  RO P G qs c n h0 ops Q (⟨d,.call ⟨.builtin .append,#[x,y],i⟩,tt,pos,aft,none⟩::rest) f m :=
 yi hx F z hs H A u l t I r q C hex hd fun p g B=>cA (.of_perm List.perm_append_comm) (fun f=>hQ f _ _ (.of_perm List.perm_append_comm)) (h p g B (sd B))
theorem uW {x y:Operand} {i:Array TypeId} {T1 e len k:Nat} {v:Value} {S:Nat->Value} {sm fm:ao} (hx:ev f x=v) (A:i[0]? = some T) (r:bA.tk P T = .sl e) (hs:bA.sz P e=1)
  (B:dv P e=some [.int .u8 0]) (t:bA.by_ P e<=64) (q:i[1]? = some T1) (j:bA.tk P T1 = .int .i64)
  (p:ky v len S sm) (F:m.Perm (sm++fm)) (C:ev f y = .int .i64 (k:Int)) (z:len+k<=2^40) (hex:h0.ex=false) (hd:aE n d=true)
  (h:∀l g,ky l (len+k) (cQ S len k (fun _=>.int .u8 0)) g->dJ l=true->RO P G qs c n h0 ops Q rest (aV f d l) (fm++g))
  (hQ:∀f m m',aR m m'->Q f m'->Q f m:=by first|exact fun _ _ _ e h=>bZ e h|exact fun _ _ _ e h=>jD e h) :
  RO P G qs c n h0 ops Q (⟨d,.call ⟨.builtin .append,#[x,y],i⟩,tt,pos,aft,none⟩::rest) f m :=
 mw hx A r hs B t q j p F C z hex hd fun l g u=>cA (.of_perm List.perm_append_comm) (fun f=>hQ f _ _ (.of_perm List.perm_append_comm)) (h l g u (sd u))
end
end Go.Eng
