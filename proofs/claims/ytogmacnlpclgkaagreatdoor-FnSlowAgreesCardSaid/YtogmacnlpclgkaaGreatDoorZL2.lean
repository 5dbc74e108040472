/- Texts L2. -/
import Derived.Test.YtogmacnlpclgkaaGreatDoorX37
set_option linter.all false
namespace Go.Proofs.YtogmacnlpclgkaaGreatDoor
open Go Go.Eng Go.Pz
attribute [local irreducible] RO J av aO
set_option maxRecDepth 20000
variable {G:ao} {dat:Nat->Nat} {N:Nat}
section
variable {P:Program} [ty:bA P] {qs:List FuncId} {c:World} {n:Nat} {h0:dx} {ops:Array Oper} {Q:Fr->ao->Prop} {rest:List Oper} {f:Fr} {m:ao}
variable {dd:Option Tmp} {T T' tt:TypeId} {pos:String} {aft:Array Edge}
theorem eP {x y:Operand} {l:Array TypeId} {T1 e len k C:Nat} {v:Value} {a b:Nat->Nat} {sm fm:ao} {H:Option Addr} (hx:ev f x=v) (J:l[0]? = some T) (z:bA.tk P T = .sl e) (hs:bA.sz P e=1)
  (M:dv P e=some [.int .u8 0]) (A:bA.by_ P e<=64) (u:l[1]? = some T1) (p:tw (bA.tk P T1)=true)
  (hb:dH 1 v len (dw a) sm) (U:m.Perm (sm++fm)) (O:ev f y = .slice H k C) (V:aU (m++G) H k C b) (I:len+k<=2^40) (hex:h0.ex=false) (hd:aE n dd=true)
  (h:∀q r g,dH 1 (.slice q (len+k) r) (len+k) (dw (gY len a b)) g->RO P G qs c n h0 ops Q rest (aV f dd (.slice q (len+k) r)) (fm++g))
  (hQ:∀f m m',aR m m'->Q f m'->Q f m:=by first|exact fun _ _ _ e h=>bZ e h|exact fun _ _ _ e h=>jD e h) :
  RO P G qs c n h0 ops Q (⟨dd,.call ⟨.builtin .append,#[x,y],l⟩,tt,pos,aft,none⟩::rest) f m:=by
 obtain⟨src,K,B⟩:=V.src
 refine bg (s:=0) hx J z hs M A u p hb U (by rw[O];exact K) (fun j Y=>by rw[B j aa];rfl) I hex hd (fun W g t _=>?_) hQ
 have F:=bR t (yJ (fun i hi=>B i hi))
 obtain⟨q,r,rfl⟩:=bV F
 exact h q r g F
end
theorem nA {M:ao} {b:Nat} (l:List Nat) {B:bk} (hB:(b,B)∈M) (h:l.length<=B.n) (hg:∀i,i<l.length->B.g i = .int .u8 (l.getD i 0:Nat)):aU M (bi b) l.length l.length (fun i=>l.getD i 0) :=
 ⟨aZ _,.inr ⟨b,0,B,rfl,hB,fun _=>aa,fun i hi=>by rw[Nat.zero_add];exact hg i hi⟩⟩
theorem lP {n:Nat} {a b:Nat->Nat} (g:∀i,a i<256) (hb:∀i,b i<256) (i:Nat):gY n a b i<256:=by
 unfold gY
 split
 ·exact g _
 ·exact hb _
theorem lQ (n i:Nat):iZ n i<256:=Nat.mod_lt _ (by decide)
end Go.Proofs.YtogmacnlpclgkaaGreatDoor
