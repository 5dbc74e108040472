/- Texts 31. -/
import Derived.Test.YtogmacnlpclgkaaGreatDoorX30
set_option linter.all false
namespace Go.Proofs.YtogmacnlpclgkaaGreatDoor
open Go Go.Eng
attribute [local irreducible] RO J av aO
variable {G:ao} {dat:Nat->Nat}
def Au (l:List Oper):List Nat->Option (List Oper)
 | []=>some []
 | i::r=>match l[i]?,Au l r with
  | some o,some t=>some (o::t)
  | _,_=>none
theorem uy {l:List Oper}:∀{g:List Nat} {j:List Oper},Au l g=some j->g.map (l.toArray[·]?)=j.map some
 | [],j,h=>by cases h;rfl
 | i::r,j,h=>by
  unfold Au at h;split at h
  ·rename_i o t h1 h2
   cases h;simp only[List.map_cons,uy h2]
   congr 1
   simpa using h1
  ·cases h
theorem jy {c:World} {n:Nat} {h0:dx} {Q:Exit->Fr->ao->Prop} {f:Fr} {m:ao} {id:Nat} {l:List Oper} {qs:List FuncId} (g:List Nat) {i:List Oper} (hl:Au l g=some i)
  (dE:pI l qs g=true) (h:RO Tryz.prog G qs c n h0 l.toArray (fun f m=>Q .normal f m) i f m):J Tryz.prog G c n h0 (.region id l.toArray true) Q f m :=
 tL g mixed_ok dE (uy hl) h
def bT (x:Nat->Nat):Nat->Nat
 | 0=>0
 | n+1=>bT x n+x n*2^(8*n)
theorem gV {x:Nat->Nat} (hx:∀i,x i<256):∀n,bT x n<2^(8*n)
 | 0=>by simp[bT]
 | n+1=>by
  have h:=gV hx n
  have j:x n*2^(8*n)<=255*2^(8*n):=Nat.mul_le_mul_right _ (by have:=hx n;omega)
  have g:2^(8*(n+1))=256*2^(8*n):=by rw[show 8*(n+1)=8*n+8 from aa,Nat.pow_add];omega
  rw[bT,g];omega
theorem qk {x:Nat->Nat}:∀{n i:Nat},i<n->bT x i+x i*2^(8*i)<=bT x n
 | n+1,i,h=>by
  rcases Nat.lt_succ_iff_lt_or_eq.1 h with h|h
  ·have:=qk (x:=x) h
   rw[bT];omega
  ·subst h;rw[bT];exact aZ _
theorem q8 {x:Nat->Nat}:∀{n:Nat},bT x n=0 ↔ ∀i,i<n->x i=0
 | 0=>by simp[bT]
 | n+1=>by
  have k:0<2^(8*n):=Nat.pow_pos aa
  rw[bT,Nat.add_eq_zero_iff,q8 (n:=n),Nat.mul_eq_zero]
  constructor
  ·rintro⟨g,j⟩ i hi;rcases Nat.lt_succ_iff_lt_or_eq.1 hi with h|h
   ·exact g i h
   ·subst h;rcases j with h|h<;>omega
  ·exact fun h=>⟨fun i hi=>h i aa,.inl (h n aa)⟩
theorem uz {x:Nat->Nat} {p n:Nat}:gO x p n=true ↔ bT (fun i=>x (p+i)) n=0:=by
 rw[q8]
 unfold gO
 simp[List.all_eq_true]
theorem uA {a b j:Nat} (h:a<2^j):a|||(b*2^j)=a+b*2^j:=by
 have:=Nat.shiftLeft_add_eq_or_of_lt h b
 rw[Nat.shiftLeft_eq] at this
 rw[Nat.or_comm,<- this];omega
theorem gj (j:Option Addr) (n l:Nat) (x:Nat->Nat) (hx:∀i,x i<256) (h:zL G j n l x) (t:bT x n<2^63) (F:n<=8) :
  av Tryz.prog G 39 #[.slice j n l] [] (fun v m=>m=[]/\v = .int .i64 (bT x n)):=by
 refine bE Tryz.func39 fun c h0 hex=>?_
 refine run _ ?_
 refine mP (σ:=Nat) (fun i=>[(3,.int .i64 (bT x i)),(6,.slice j n l),(7,.int .i64 n),(8,.int .i64 i)]) (fun _=>[]) (fun i=>i<=n) (fun i=>n-i) 0 cF (.refl _) (Nat.zero_le _) ?_
 intro i f hi
 refine run _ ?_
 refine ac rfl (fun p=>?_) (fun r=>?_)
 ·have g:i<n:=aa
  rcases h.is with⟨_,C,_⟩|⟨b,o,B,rfl,u,q,z⟩
  ·omega
  have hb:=hx i
  have y:=qk (x:=x) g
  have q:=q aa
  have k:=gV hx i
  refine run _ ?_
  refine aK (v:=.int .u8 (x i)) rfl rfl (by simpa using u) (by simp;omega) (by rw[Int.toNat_natCast];exact z i g) rfl ?_
  refine aS _ ?_
  refine run _ ?_
  refine m9 (x i) (8*i) rfl (by show Value.int _ _=Value.int _ _;congr 1) (by show _<=64;omega) (by show _<2^63;omega) rfl ?_
  refine aS _ ?_
  refine nZ (bT x i) (x i*2^(8*i)) rfl rfl (by show _<2^63;omega) (by show _<2^63;omega) rfl ?_
  rw[uA k];refine aS _ ?_
  refine run _ ?_
  exact⟨i+1,aa,aa,cF,.refl _⟩
 ·have g:i=n:=aa
  subst g;refine run _ ?_
  exact af (ag [2] ⟨rfl,rfl⟩)
inductive Jz
 | wrong
 | open_
 | right (size win pos:Nat)
def eO (x:Nat->Nat) (n:Nat):Jz :=
 let d:=x 4
 if d/8%2=1 then .wrong
 else if n<5+cJ d then .wrong
 else if gO x (5+aQ d) (aB d)=false then .wrong
 else if bC d=8/\64<=x (5+aQ d+aB d+7) then .open_
 else
  let size:=eW x d (5+aQ d+aB d)
  let win:=if aD d then size else cj (x 5)
  if 8388608<win then .open_ else .right size win (5+cJ d)
def D7 (x:Nat->Nat) (n:Nat) (v:Value):Prop:=∃a b at_ g:Nat,
 v = .tuple #[.agg #[.int .i64 a,.int .i64 b,.bool (bC (x 4) != 0),.bool (dg (x 4))],.int .i64 at_,.int .i64 g]/\at_<=4294967296 /\
  match eO x n with
  | .wrong=>g=2
  | .open_=>g=0
  | .right size win pos=>g=1/\a=size/\b=win/\at_=pos
theorem BV {y:Nat->Nat} {n:Nat} (g:∀i,y i<256) (l:n<=8) (j:n=8->y 7<64):bT y n<2^62:=by
 by_cases h:n=8
 ·subst h;have k:=gV g 7
  have:=j rfl
  rw[bT];omega
 ·exact Nat.lt_of_lt_of_le (gV g n) (Nat.pow_le_pow_right aa aa)
theorem iT (y:Nat->Nat) (n c:Nat) (g:2^(8*n)=c):bT y (n+1)=bT y n+y n*c:=by rw[bT,g]
theorem pw:2^(8*0)=1/\2^(8*1)=256/\2^(8*2)=65536/\2^(8*3)=16777216/\2^(8*4)=4294967296/\2^(8*5)=1099511627776/\2^(8*6)=281474976710656/\2^(8*7)=72057594037927936:=by decide
theorem Kd (y:Nat->Nat):bT y 1=y 0:=by rw[iT y 0 1 pw.1,Nat.mul_one,bT,Nat.zero_add]
theorem D8 (y:Nat->Nat):bT y 2=y 0+y 1*256:=by rw[iT y 1 256 pw.2.1,Kd]
theorem IY (y:Nat->Nat):bT y 4=y 0+y 1*256+y 2*65536+y 3*16777216:=by rw[iT y 3 16777216 pw.2.2.2.1,iT y 2 65536 pw.2.2.1,D8]
theorem KC (y:Nat->Nat):bT y 8=y 0+y 1*256+y 2*65536+y 3*16777216+y 4*4294967296+y 5*1099511627776+y 6*281474976710656+y 7*72057594037927936:=by
 rw[iT y 7 72057594037927936 pw.2.2.2.2.2.2.2,iT y 6 281474976710656 pw.2.2.2.2.2.2.1,iT y 5 1099511627776 pw.2.2.2.2.2.1,iT y 4 4294967296 pw.2.2.2.2.1,IY]
theorem vN {x:Nat->Nat} {d p:Nat} (h:bC d=0\/bC d=1\/bC d=2\/bC d=4\/bC d=8):eW x d p=bT (fun i=>x (p+i)) (bC d)+if bC d=2 then 256 else 0:=by
 unfold eW
 have q:¬(2:Nat)=0:=by decide
 have r:¬(2:Nat)=1:=by decide
 have u:¬(4:Nat)=0:=by decide
 have l:¬(4:Nat)=1:=by decide
 have g:¬(4:Nat)=2:=by decide
 have k:¬(8:Nat)=0:=by decide
 have y:¬(8:Nat)=1:=by decide
 have j:¬(8:Nat)=2:=by decide
 have t:¬(8:Nat)=4:=by decide
 rcases h with h|h|h|h|h
 ·rw[h];rfl
 ·rw[h,Kd];rfl
 ·rw[h,D8,ah q,ah r,ai rfl,ai rfl];unfold v5;dsimp only;omega
 ·rw[h,IY,ah u,ah l,ah g,ai rfl,ah g,Nat.add_zero];rfl
 ·rw[h,KC,ah k,ah y,ah j,ah t,ah j];unfold l7 eX;simp only[Nat.zero_add,Nat.reduceAdd];omega
theorem yR (b o n r:Nat) (B:bk) (x:Nat->Nat) (hx:∀i,x i<256) (bb:n<=r) (hB:(b,B)∈G) (bm:o+n<=B.n) (C:∀i,i<n->B.g (o+i) = .int .u8 (x i)) (bs:5<=n) (hn:n<=2^31) :
  av Tryz.prog G 45 #[.slice (some ⟨b,o,none⟩) n r] [] (fun v m=>m=[]/\D7 x n v):=by
 refine bE Tryz.func45 fun c h0 hex=>?_
 have a5:=hx 4
 obtain⟨a6,Y,ax,a0,bc⟩:=oX a5
 have K:x 4/64=0\/x 4/64=1\/x 4/64=2\/x 4/64=3:=aa
 refine run _ ?_
 refine aC z100 rfl hex fun q b5=>?_
 refine aS _ ?_
 refine run _ ?_
 refine aK (v:=.int .u8 (x 4)) rfl rfl (by simp[hB]) (by simp;omega) (C 4 aa) rfl ?_
 refine aS _ ?_
 refine run _ ?_
 refine hJ (x 4) 32 rfl rfl (by show _<2^63;omega) (by decide) rfl ?_
 refine m_ (aD (x 4)) rfl rfl (by rw[<- a6];omega) rfl ?_
 refine aS _ ?_
 refine run _ ?_
 refine au (z:=.int .i64 0) (vs:=[.int .i64 0,.int .i64 2,.int .i64 4,.int .i64 8]) rfl rfl z3 rfl rfl rfl rfl hex fun sb bv=>?_
 refine aS _ ?_
 refine run _ ?_
 refine iV [(0,.slice (some ⟨b,o,none⟩) n r),(2,bf q),(5,.int .i64 (x 4)),(6,.int .i64 5),(7,.bool (aD (x 4))),(8,.slice (bi sb) 4 4)]
  [(sb,aj [.int .i64 ((if aD (x 4) then 1 else 0:Nat):Int),.int .i64 2,.int .i64 4,.int .i64 8] 3),(q,aj [.int .i64 0,.int .i64 0,.bool false,.bool false] 100)] ?_ ?_
 ·refine ei rfl (fun hs=>?_) (fun hs=>?_)
  ·have j:aD (x 4)=true:=hs
   refine run _ ?_
   show bS _ _/\aR _ _
   exact⟨cF,.cons (by rw[j];exact aW rfl rfl rfl rfl) (.refl _)⟩
  ·have j:aD (x 4)=false:=hs
   refine run _ ?_
   show bS _ _/\aR _ _
   exact⟨cF,.cons (by rw[j];rfl) (.refl _)⟩
 intro f
 have hsz:∀B:bk,B=aj [.int .i64 ((if aD (x 4) then 1 else 0:Nat):Int),.int .i64 2,.int .i64 4,.int .i64 8] 3->B.g (x 4/64) = .int .i64 (bC (x 4)):=fun B hB=>by
  rw[hB];unfold bC;rcases K with h|h|h|h<;>rw[h]<;>rfl
 refine dk ?_
 refine jy (qs:=qsT) [0,1,2,3,4,6,7,10,5,8,9,11] rfl (by kernel_rfl) ?_
 refine aS _ ?_
 refine aF (v:=.int .i64 (bC (x 4))) rfl rfl .here ?_ ?_ rfl ?_
 ·show _<4;omega
 ·rw[show(0+((x 4:Int)/64).toNat)=x 4/64 from aa];exact hsz _ rfl
 refine aS _ ?_
 refine hJ (x 4) 3 rfl rfl (by show _<2^63;omega) (by decide) rfl ?_
 rw[a0]
 refine aS _ ?_
 refine au (z:=.int .i64 0) (vs:=[.int .i64 0,.int .i64 1,.int .i64 2,.int .i64 4]) rfl rfl z3 rfl rfl rfl rfl hex fun M bu=>?_
 refine aS _ ?_
 have am:x 4%4=0\/x 4%4=1\/x 4%4=2\/x 4%4=3:=aa
 have hid:∀B:bk,B=aj [.int .i64 0,.int .i64 1,.int .i64 2,.int .i64 4] 3->B.g (x 4%4) = .int .i64 (aB (x 4)):=fun B hB=>by
  rw[hB];unfold aB;rcases am with h|h|h|h<;>rw[h]<;>rfl
 refine aF (v:=.int .i64 (aB (x 4))) rfl rfl .here ?_ ?_ rfl ?_
 ·show _<4;omega
 ·rw[show(0+((x 4%4:Nat):Int).toNat)=x 4%4 from aa];exact hid _ rfl
 refine aS _ ?_
 refine run _ ?_
 refine hJ (x 4) 4 rfl rfl (by show _<2^63;omega) (by decide) rfl ?_
 refine m_ (dg (x 4)) rfl rfl (by rw[<- ax];omega) rfl ?_
 refine aS _ ?_
 have al:decide (((bC (x 4):Nat):Int)>0)=(bC (x 4) != 0):=by
  cases h:(bC (x 4) != 0)<;>simp at h ⊢ <;> omega
 rw[al]
 refine bU (vs:=[.int .i64 0,.int .i64 0,.bool (bC (x 4) != 0),.bool (dg (x 4))]) rfl rfl z100 rfl rfl rfl rfl ?_
 refine aS _ ?_
 refine aC z100 rfl hex fun I bd=>?_
 refine aS _ ?_
 refine ak (s:=3) (vs:=[.int .i64 0,.int .i64 0,.bool (bC (x 4) != 0),.bool (dg (x 4))]) rfl rfl rfl rfl (cC rfl) .here (by decide) rfl hex ?_
 refine aS _ ?_
 refine ez [(0,.slice (some ⟨b,o,none⟩) n r),(2,bf q),(5,.int .i64 (x 4)),(6,.int .i64 5),(7,.bool (aD (x 4))),(9,.int .i64 (bC (x 4))),(10,.int .i64 (aB (x 4))),(11,bf I)]
  [(I,aj [.int .i64 0,.int .i64 0,.bool (bC (x 4) != 0),.bool (dg (x 4))] 100),(q,aj [.int .i64 0,.int .i64 0,.bool false,.bool false] 100),(M,aj [.int .i64 0,.int .i64 1,.int .i64 2,.int .i64 4] 3),(sb,aj [.int .i64 ((if aD (x 4) then 1 else 0:Nat):Int),.int .i64 2,.int .i64 4,.int .i64 8] 3)] cF ?_ ?_
 ·refine .cons dT (.of_perm ?_)
  exact(List.Perm.cons _ (List.Perm.swap _ _ _)).trans (List.Perm.swap _ _ _) |>.trans (List.Perm.refl _)
 clear f
 intro f
 refine run _ ?_
 refine hJ (x 4) 8 rfl rfl (by show _<2^63;omega) (by decide) rfl ?_
 refine aS _ ?_
 refine run _ ?_
 refine ac rfl (fun J=>?_) (fun J=>?_)
 ·have k:=Y.1 aa
  have u:eO x n = .wrong:=by unfold eO;simp only;rw[ai k]
  refine run _ ?_
  refine cz (s:=3) rfl rfl rfl .here (aZ 4) rfl ?_
  refine aS _ ?_
  refine ak (s:=3) (vs:=[.int .i64 0,.int .i64 0,.bool (bC (x 4) != 0),.bool (dg (x 4))]) rfl rfl rfl rfl (cC rfl) (.there .here) (aZ 4) rfl hex ?_
  refine aS _ ?_
  refine run _ ?_
  refine af ?_;exact cH [.cell 2 100,.tmp 3,.tmp 4] [.agg #[.int .i64 0,.int .i64 0,.bool (bC (x 4) != 0),.bool (dg (x 4))],.int .i64 0,.int .i64 ((2:Nat):Int)] ⟨⟨q,0,3,_,rfl,rfl,rfl,List.mem_cons_of_mem _ List.mem_cons_self,aZ 4,rfl⟩,rfl,rfl,trivial⟩ ⟨rfl,_,_,_,_,rfl,Nat.zero_le _,by rw[u]⟩
 ·have k:¬x 4/8%2=1:=fun h=>J (by have:=Y.2 h;omega)
  have a1:bC (x 4)<=8:=by
   unfold bC;split
   ·split<;>omega
   ·rcases K with h|h|h|h<;>rw[h]<;>decide
  have bo:aQ (x 4)<=1:=by unfold aQ;split<;>omega
  have be:aB (x 4)<=4:=by unfold aB;split<;>omega
  have hA:cJ (x 4)=aQ (x 4)+aB (x 4)+bC (x 4):=rfl
  refine fW ?_;refine dk ?_;refine iV [(0,.slice (some ⟨b,o,none⟩) n r),(2,bf q),(5,.int .i64 (x 4)),(6,.int .i64 5),(7,.bool (aD (x 4))),(9,.int .i64 (bC (x 4))),(10,.int .i64 (aB (x 4))),(11,bf I),(12,.int .i64 (5+(aB (x 4):Int)+(bC (x 4):Int)))] [(I,aj [.int .i64 0,.int .i64 0,.bool (bC (x 4) != 0),.bool (dg (x 4))] 100),(q,aj [.int .i64 0,.int .i64 0,.bool false,.bool false] 100),(M,aj [.int .i64 0,.int .i64 1,.int .i64 2,.int .i64 4] 3),(sb,aj [.int .i64 ((if aD (x 4) then 1 else 0:Nat):Int),.int .i64 2,.int .i64 4,.int .i64 8] 3)] ?_ ?_
  ·refine run _ ?_
   show bS _ _/\aR _ _
   exact⟨cF,.refl _⟩
  clear f;intro f;refine dk ?_;refine iV [(0,.slice (some ⟨b,o,none⟩) n r),(2,bf q),(5,.int .i64 (x 4)),(6,.int .i64 5),(7,.bool (aD (x 4))),(9,.int .i64 (bC (x 4))),(10,.int .i64 (aB (x 4))),(11,bf I),(12,.int .i64 ((5+cJ (x 4):Nat):Int))] [(I,aj [.int .i64 0,.int .i64 0,.bool (bC (x 4) != 0),.bool (dg (x 4))] 100),(q,aj [.int .i64 0,.int .i64 0,.bool false,.bool false] 100),(M,aj [.int .i64 0,.int .i64 1,.int .i64 2,.int .i64 4] 3),(sb,aj [.int .i64 ((if aD (x 4) then 1 else 0:Nat):Int),.int .i64 2,.int .i64 4,.int .i64 8] 3)] ?_ ?_
  ·refine run _ ?_
   refine lk rfl rfl ?_
   refine aS _ ?_
   refine run _ ?_
   refine ei rfl (fun hs=>?_) (fun hs=>?_)
   ·have j:aD (x 4)=false:=by simpa using hs
    have F:aQ (x 4)=1:=by unfold aQ;rw[j];rfl
    refine run _ ?_
    show bS _ _/\aR _ _
    exact⟨⟨rfl,rfl,rfl,rfl,rfl,rfl,rfl,rfl,by show Value.int _ _=Value.int _ _;congr 1;omega,trivial⟩,.refl _⟩
   ·have j:aD (x 4)=true:=by simpa using hs
    have F:aQ (x 4)=0:=by unfold aQ;rw[j];rfl
    refine run _ ?_
    show bS _ _/\aR _ _
    exact⟨⟨rfl,rfl,rfl,rfl,rfl,rfl,rfl,rfl,by show Value.int _ _=Value.int _ _;congr 1;omega,trivial⟩,.refl _⟩
  clear f;intro f;refine run _ ?_
  refine ac rfl (fun bq=>?_) (fun b3=>?_)
  ·have u:eO x n = .wrong:=by unfold eO;simp only;rw[ah k,ai aa]
   refine run _ ?_
   refine cz (s:=3) rfl rfl rfl .here (aZ 4) rfl ?_
   refine aS _ ?_
   refine ak (s:=3) (vs:=[.int .i64 0,.int .i64 0,.bool (bC (x 4) != 0),.bool (dg (x 4))]) rfl rfl rfl rfl (cC rfl) (.there .here) (aZ 4) rfl hex ?_
   refine aS _ ?_
   refine run _ ?_
   refine af ?_;exact cH [.cell 2 100,.tmp 3,.tmp 4] [.agg #[.int .i64 0,.int .i64 0,.bool (bC (x 4) != 0),.bool (dg (x 4))],.int .i64 0,.int .i64 ((2:Nat):Int)] ⟨⟨q,0,3,_,rfl,rfl,rfl,List.mem_cons_of_mem _ List.mem_cons_self,aZ 4,rfl⟩,rfl,rfl,trivial⟩ ⟨rfl,_,_,_,_,rfl,Nat.zero_le _,by rw[u]⟩
  have a9:5+cJ (x 4)<=n:=aa
  refine fW ?_;refine dk ?_;refine iV [(0,.slice (some ⟨b,o,none⟩) n r),(2,bf q),(5,.int .i64 (x 4)),(6,.int .i64 ((5+aQ (x 4):Nat):Int)),(7,.bool (aD (x 4))),(9,.int .i64 (bC (x 4))),(10,.int .i64 (aB (x 4))),(11,bf I)] [(I,aj [.int .i64 0,.int .i64 ((if aD (x 4) then 0 else cj (x 5):Nat):Int),.bool (bC (x 4) != 0),.bool (dg (x 4))] 100),(q,aj [.int .i64 0,.int .i64 0,.bool false,.bool false] 100),(M,aj [.int .i64 0,.int .i64 1,.int .i64 2,.int .i64 4] 3),(sb,aj [.int .i64 ((if aD (x 4) then 1 else 0:Nat):Int),.int .i64 2,.int .i64 4,.int .i64 8] 3)] ?_ ?_
  ·refine run _ ?_
   refine lk rfl rfl ?_
   refine aS _ ?_
   refine run _ ?_
   refine ei rfl (fun hs=>?_) (fun hs=>?_)
   ·have j:aD (x 4)=false:=by simpa using hs
    have F:aQ (x 4)=1:=by unfold aQ;rw[j];rfl
    have a7:=hx 5
    refine run _ ?_
    refine aK (v:=.int .u8 (x 5)) rfl rfl (by simp[hB]) (by simp;omega) (C 5 aa) rfl ?_
    refine aS _ ?_
    refine ls rfl rfl rfl ?_
    have ab:(if(50:Int)<10+(x 5:Int)/8 then(50:Int) else 10+(x 5:Int)/8)=((10+x 5/8:Nat):Int):=by rw[ah aa];omega
    rw[ab];have hp:2^(10+x 5/8)<=2^41:=Nat.pow_le_pow_right aa aa
    refine m9 (k':=.i64) 1 (10+x 5/8) rfl rfl (by show _<=64;omega) (by show _<2^63;omega) rfl ?_
    obtain⟨A,W⟩:∃A,1*2^(10+x 5/8)=A:=⟨_,rfl⟩
    have ba:A<=2^41:=aa
    rw[W];refine aS _ ?_
    refine run _ ?_
    have a8:A/8*(x 5%8)<=2^38*7:=Nat.mul_le_mul aa aa
    refine uT A 8 rfl rfl aa (by show _<2^63;omega) rfl ?_
    refine aS _ ?_
    refine aK (v:=.int .u8 (x 5)) rfl rfl (by simp[hB]) (by simp;omega) (C 5 aa) rfl ?_
    refine aS _ ?_
    refine hJ (x 5) 7 rfl rfl (by show _<2^63;omega) (by decide) rfl ?_
    rw[(oX a7).2.2.2.2];refine aS _ ?_
    refine run _ ?_
    show bS _ _/\aR _ _
    refine⟨⟨rfl,rfl,rfl,by rw[F];rfl,rfl,rfl,rfl,rfl,trivial⟩,.cons ?_ (.refl _)⟩
    have ad:cj (x 5)=A+A/8*(x 5%8):=by unfold cj;rw[<- W,Nat.one_mul]
    rw[j,ah Bool.false_ne_true,ad];exact aW rfl rfl rfl rfl
   ·have j:aD (x 4)=true:=by simpa using hs
    have F:aQ (x 4)=0:=by unfold aQ;rw[j];rfl
    refine run _ ?_
    show bS _ _/\aR _ _
    exact⟨⟨rfl,rfl,rfl,by rw[F];rfl,rfl,rfl,rfl,rfl,trivial⟩,.cons (by rw[j];rfl) (.refl _)⟩
  clear f;intro f;refine run _ ?_
  refine iU (s:=0) (l:=((5+aQ (x 4):Nat):Int)) (h:=((5+aQ (x 4)+aB (x 4):Nat):Int)) rfl rfl rfl rfl rfl aa aa aa rfl ?_
  have O:zL G (some ⟨b,Go.Eng.sOff o (((5+aQ (x 4):Nat):Int)).toNat (0+1) r,none⟩) (aB (x 4)) (r-(5+aQ (x 4))) (fun i=>x (5+aQ (x 4)+i)):=by
   refine⟨aa,.inr ⟨b,_,B,rfl,hB,?_,?_⟩⟩
   ·intro _;unfold Go.Eng.sOff;rw[Int.toNat_natCast];split<;>omega
   ·intro i hi;have:Go.Eng.sOff o (((5+aQ (x 4):Nat):Int)).toNat (0+1) r=o+(5+aQ (x 4)):=by unfold Go.Eng.sOff;rw[Int.toNat_natCast,ah aa];omega
    rw[this,Nat.add_assoc];exact C _ aa
  have b1:bT (fun i=>x (5+aQ (x 4)+i)) (aB (x 4))<2^32:=Nat.lt_of_lt_of_le (gV (fun i=>hx _) _) (Nat.pow_le_pow_right aa aa)
  refine aS _ ?_
  refine ae (vs:=[.slice (some ⟨b,Go.Eng.sOff o (((5+aQ (x 4):Nat):Int)).toNat (0+1) r,none⟩) (aB (x 4)) (r-(5+aQ (x 4)))]) (gj _ _ _ _ (fun i=>hx _) O aa aa) ?_ (hx:=?_)
  rotate_left
  ·show[Value.slice _ (_-_) (_-_)]=[Value.slice _ _ _]
   rw[Int.toNat_natCast,Int.toNat_natCast]
   congr 2
   omega
  rintro v m ⟨rfl,rfl⟩;refine aS _ ?_
  refine run _ ?_
  refine ac rfl (fun V=>?_) (fun V=>?_)
  ·have hz:gO x (5+aQ (x 4)) (aB (x 4))=false:=by
    cases hc:gO x (5+aQ (x 4)) (aB (x 4)) with
    | false=>rfl
    | true=>exact absurd (by rw[uz.1 hc];rfl) V
   have u:eO x n = .wrong:=by unfold eO;simp only;rw[ah k,ah aa,ai hz]
   refine go ?_;refine cz (s:=3) rfl rfl rfl .here (aZ 4) rfl ?_
   refine go ?_;refine ak (s:=3) (vs:=[.int .i64 0,.int .i64 ((if aD (x 4) then 0 else cj (x 5):Nat):Int),.bool (bC (x 4) != 0),.bool (dg (x 4))]) rfl rfl rfl rfl (cC rfl) (.there .here) (aZ 4) rfl hex ?_
   refine go ?_;refine af ?_;exact cH [.cell 2 100,.tmp 3,.tmp 4] [.agg #[.int .i64 0,.int .i64 ((if aD (x 4) then 0 else cj (x 5):Nat):Int),.bool (bC (x 4) != 0),.bool (dg (x 4))],.int .i64 0,.int .i64 ((2:Nat):Int)] ⟨⟨q,0,3,_,rfl,rfl,rfl,List.mem_cons_of_mem _ List.mem_cons_self,aZ 4,rfl⟩,rfl,rfl,trivial⟩ ⟨rfl,_,_,_,_,rfl,Nat.zero_le _,by rw[u]⟩
  have hz:gO x (5+aQ (x 4)) (aB (x 4))=true:=uz.2 (by simp only[ne_eq,Decidable.not_not] at V;omega)
  refine fW ?_;refine dk ?_;refine rC [0,2,7,9,11] [(6,.int .i64 ((5+aQ (x 4)+aB (x 4):Nat):Int))] ?_ fun f=>?_
  ·refine go ?_;exact joined (.refl _)
  refine dk ?_;refine dk ?_;refine rC [0,2,6,7,9,11] [(107,.bool (decide (bC (x 4)=8/\64<=x (5+aQ (x 4)+aB (x 4)+7))))] ?_ fun f=>?_
  ·by_cases h8:bC (x 4)=8
   ·refine go ?_;refine aJ 100 rfl (fun _=>?_) (fun h=>absurd (by rw[h8];rfl) h)
    have b2:=hx (5+aQ (x 4)+aB (x 4)+7)
    refine go ?_;refine aK (v:=.int .u8 (x (5+aQ (x 4)+aB (x 4)+7))) rfl rfl (by simp[hB]) aa (C _ aa) rfl ?_
    refine go ?_;show bS _ (_::_)/\aR _ _
    refine⟨⟨?_,?_⟩,.refl _⟩
    ·show Value.bool (decide _)=Value.bool (decide _)
     congr 1
     exact decide_eq_decide.2 ⟨fun h=>⟨h8,aa⟩,fun h=>aa⟩
    ·repeat(first|exact trivial|refine⟨by exact rfl,?_⟩)
   ·refine go ?_;refine aJ 100 rfl (fun h=>absurd h aa) (fun _=>?_)
    refine go ?_;show bS _ (_::_)/\aR _ _
    refine⟨⟨?_,?_⟩,.refl _⟩
    ·show Value.bool false=Value.bool (decide _)
     congr 1
     exact(decide_eq_false fun h=>h8 h.1).symm
    ·repeat(first|exact trivial|refine⟨by exact rfl,?_⟩)
  refine ac rfl (fun U=>?_) (fun U=>?_)
  ·have u:eO x n = .open_:=by unfold eO;simp only;rw[ah k,ah aa,ah (by rw[hz];decide),ai U]
   refine go ?_;refine cz (s:=3) rfl rfl rfl .here (aZ 4) rfl ?_
   refine go ?_;refine ak (s:=3) (vs:=[.int .i64 0,.int .i64 ((if aD (x 4) then 0 else cj (x 5):Nat):Int),.bool (bC (x 4) != 0),.bool (dg (x 4))]) rfl rfl rfl rfl (cC rfl) (.there .here) (aZ 4) rfl hex ?_
   refine go ?_;refine af ?_;exact cH [.cell 2 100,.tmp 3,.tmp 4] [.agg #[.int .i64 0,.int .i64 ((if aD (x 4) then 0 else cj (x 5):Nat):Int),.bool (bC (x 4) != 0),.bool (dg (x 4))],.int .i64 0,.int .i64 ((0:Nat):Int)] ⟨⟨q,0,3,_,rfl,rfl,rfl,List.mem_cons_of_mem _ List.mem_cons_self,aZ 4,rfl⟩,rfl,rfl,trivial⟩ ⟨rfl,_,_,_,_,rfl,Nat.zero_le _,by rw[u]⟩
  refine fW ?_;refine dk ?_;have b4:bT (fun i=>x (5+aQ (x 4)+aB (x 4)+i)) (bC (x 4))<2^62:=BV (fun i=>hx _) a1 (fun h=>by have:=hx (5+aQ (x 4)+aB (x 4)+7);omega)
  have a3:bC (x 4)=0\/bC (x 4)=1\/bC (x 4)=2\/bC (x 4)=4\/bC (x 4)=8:=by
   unfold bC;split
   ·split<;>simp
   ·rcases K with h|h|h|h<;>rw[h]<;>simp
  have H:eW x (x 4) (5+aQ (x 4)+aB (x 4))=bT (fun i=>x (5+aQ (x 4)+aB (x 4)+i)) (bC (x 4))+if bC (x 4)=2 then 256 else 0:=vN a3
  generalize hP:5+aQ (x 4)+aB (x 4)=p at *;generalize aw:bT (fun i=>x (p+i)) (bC (x 4))=nl at *
  refine r_ [0,2,6,7,9,11] [] [(I,aj [ay nl,.int .i64 ((if aD (x 4) then 0 else cj (x 5):Nat):Int),.bool (bC (x 4) != 0),.bool (dg (x 4))] 100),(q,aj [.int .i64 0,.int .i64 0,.bool false,.bool false] 100),(M,aj [.int .i64 0,.int .i64 1,.int .i64 2,.int .i64 4] 3),(sb,aj [.int .i64 ((if aD (x 4) then 1 else 0:Nat):Int),.int .i64 2,.int .i64 4,.int .i64 8] 3)] ?_ fun f=>?_
  ·refine go ?_;refine iU (s:=0) (l:=(p:Int)) (h:=((p+bC (x 4):Nat):Int)) rfl rfl rfl rfl rfl aa aa aa rfl ?_
   have O:zL G (some ⟨b,Go.Eng.sOff o ((p:Int)).toNat (0+1) r,none⟩) (bC (x 4)) (r-p) (fun i=>x (p+i)):=by
    refine⟨aa,.inr ⟨b,_,B,rfl,hB,?_,?_⟩⟩
    ·intro _;unfold Go.Eng.sOff;rw[Int.toNat_natCast];split<;>omega
    ·intro i hi;have:Go.Eng.sOff o ((p:Int)).toNat (0+1) r=o+p:=by unfold Go.Eng.sOff;rw[Int.toNat_natCast,ah aa];omega
     rw[this,Nat.add_assoc];exact C _ aa
   refine go ?_;refine ae (vs:=[.slice (some ⟨b,Go.Eng.sOff o ((p:Int)).toNat (0+1) r,none⟩) (bC (x 4)) (r-p)]) (gj _ _ _ _ (fun i=>hx _) O aa aa) ?_ (hx:=?_)
   rotate_left
   ·show[Value.slice _ (_-_) (_-_)]=[Value.slice _ _ _]
    rw[Int.toNat_natCast,Int.toNat_natCast]
    congr 2
    omega
   rintro v m ⟨rfl,rfl⟩;rw[aw];refine go ?_;exact joined ci
  refine dk ?_;refine r_ [2,6,7,9,11] [] [(I,aj [.int .i64 (eW x (x 4) p:Nat),.int .i64 ((if aD (x 4) then 0 else cj (x 5):Nat):Int),.bool (bC (x 4) != 0),.bool (dg (x 4))] 100),(q,aj [.int .i64 0,.int .i64 0,.bool false,.bool false] 100),(M,aj [.int .i64 0,.int .i64 1,.int .i64 2,.int .i64 4] 3),(sb,aj [.int .i64 ((if aD (x 4) then 1 else 0:Nat):Int),.int .i64 2,.int .i64 4,.int .i64 8] 3)] ?_ fun f=>?_
  ·refine go ?_;refine ac rfl (fun h2=>?_) (fun h2=>?_)
   ·refine go ?_;have a4:bC (x 4)=2:=aa
    rw[ai a4] at H;exact joined (.cons (by rw[H];exact aW rfl rfl rfl rfl) (.refl _))
   ·refine go ?_;rw[ah aa,Nat.add_zero] at H;exact joined (.cons (by rw[H]) (.refl _))
  have br:eW x (x 4) p<2^62+256:=by rw[H];split<;>omega
  generalize a2:eW x (x 4) p=sz at *;refine dk ?_;refine r_ [2,6,9,11] [] [(I,aj [ay sz,.int .i64 ((if aD (x 4) then sz else cj (x 5):Nat):Int),.bool (bC (x 4) != 0),.bool (dg (x 4))] 100),(q,aj [.int .i64 0,.int .i64 0,.bool false,.bool false] 100),(M,aj [.int .i64 0,.int .i64 1,.int .i64 2,.int .i64 4] 3),(sb,aj [.int .i64 ((if aD (x 4) then 1 else 0:Nat):Int),.int .i64 2,.int .i64 4,.int .i64 8] 3)] ?_ fun f=>?_
  ·refine go ?_;refine ei rfl (fun hs=>?_) (fun hs=>?_)
   ·have j:aD (x 4)=true:=hs
    refine go ?_;exact joined (.cons (by rw[j];exact aW rfl rfl rfl rfl) (.refl _))
   ·have j:aD (x 4)=false:=hs
    refine go ?_;exact joined (.cons (by rw[j];rfl) (.refl _))
  have y:eO x n=if 8388608<(if aD (x 4) then sz else cj (x 5)) then .open_ else .right sz (if aD (x 4) then sz else cj (x 5)) (5+cJ (x 4)):=by
   unfold eO;simp only;rw[ah k,ah aa,ah (by rw[hz];decide),hP,ah U,a2]
  generalize bt:(if aD (x 4) then sz else cj (x 5))=wn at *;refine go ?_;refine ac rfl (fun hw=>?_) (fun hw=>?_)
  ·rw[ai aa] at y;refine go ?_;refine cz (s:=3) rfl rfl rfl .here (aZ 4) rfl ?_
   refine go ?_;refine ak (s:=3) (vs:=[ay sz,ay wn,.bool (bC (x 4) != 0),.bool (dg (x 4))]) rfl rfl rfl rfl (cC rfl) (.there .here) (aZ 4) rfl hex ?_
   refine go ?_;refine af ?_;exact cH [.cell 2 100,.tmp 3,.tmp 4] [.agg #[ay sz,ay wn,.bool (bC (x 4) != 0),.bool (dg (x 4))],.int .i64 0,.int .i64 ((0:Nat):Int)] ⟨⟨q,0,3,_,rfl,rfl,rfl,List.mem_cons_of_mem _ List.mem_cons_self,aZ 4,rfl⟩,rfl,rfl,trivial⟩ ⟨rfl,_,_,_,_,rfl,Nat.zero_le _,by rw[y]⟩
  ·rw[ah aa] at y;refine go ?_;refine cz (s:=3) rfl rfl rfl .here (aZ 4) rfl ?_
   refine go ?_;refine ak (s:=3) (vs:=[ay sz,ay wn,.bool (bC (x 4) != 0),.bool (dg (x 4))]) rfl rfl rfl rfl (cC rfl) (.there .here) (aZ 4) rfl hex ?_
   refine go ?_;refine af ?_;exact cH [.cell 2 100,.tmp 3,.tmp 4] [.agg #[ay sz,ay wn,.bool (bC (x 4) != 0),.bool (dg (x 4))],.int .i64 ((p+bC (x 4):Nat):Int),.int .i64 ((1:Nat):Int)] ⟨⟨q,0,3,_,rfl,rfl,rfl,List.mem_cons_of_mem _ List.mem_cons_self,aZ 4,rfl⟩,rfl,rfl,trivial⟩ ⟨rfl,_,_,_,_,rfl,aa,by rw[y];exact⟨rfl,rfl,rfl,aa⟩⟩
end Go.Proofs.YtogmacnlpclgkaaGreatDoor
namespace Go.Proofs.YtogmacnlpclgkaaGreatDoor
open Go Go.Eng Go.Pz
attribute [local irreducible] RO J av aO
set_option maxRecDepth 20000
variable {G:ao} {d:Nat->Nat}
theorem i_ {m:ao} {j:Option Addr} {n l:Nat} {x:Nat->Nat} (hx:∀i,x i<256) (h:aU (m++G) j n l x) (t:bT x n<2^63) (B:n<=8):aO Tryz.prog G 39 #[.slice j n l] m (.int .i64 (bT x n:Nat)):=by
 refine l8 Tryz.func39 fun c h0=>?_
 refine go ?_
 refine aH (σ:=Nat) [] (fun i=>[(3,.int .i64 (bT x i:Nat)),(6,.slice j n l),(7,ay n),(8,ay i)]) (fun _=>[]) (fun i=>i<=n) (fun i=>n-i) 0 (.refl _) (Nat.zero_le _) ?_
 intro i f hi
 refine go ?_
 refine ac rfl (fun p=>?_) (fun q=>?_)
 ·have g:i<n:=aa
  obtain⟨b,o,rfl⟩:=h.some aa;have hb:=hx i
  have z:=qk (x:=x) g
  have k:=gV hx i
  have u:x i*2^(8*i)<2^63:=aa
  have y:bT x i<2^63:=aa
  refine go ?_;refine gb (r:=bT x (i+1)) rfl rfl rfl rfl (dL aa) (dL aa) (uA k) rfl ?_
  refine go ?_;exact⟨i+1,aa,aa,cF,.refl _⟩
 ·obtain rfl:i=n:=aa;refine go ?_;exact af (ag [2] rfl)
def ri (t:jR) (d sz:Nat->Nat) (e K:Nat):Nat->Nat->Nat->(Nat->Nat)->Nat->Ve ((Nat->Nat)×Nat)
 | 0,_,_,o,c=>.ok (o,c)
 | k+1,p,n,o,c=>(kS t (aX d p) n (if k=0 then n else sz (3-k)) (if k=0 then K-3*e else e)).bind fun L =>
  ri t d sz e K k (p+if k=0 then n else sz (3-k)) (n-if k=0 then n else sz (3-k)) (fj o c (if k=0 then K-3*e else e) L) (c+if k=0 then K-3*e else e)
def BW (K:Nat) (r:Ve ((Nat->Nat)×Nat)) (q:Ve (Nat->Nat)):Prop:=match r with
 | .op=>q = .op
 | .wr=>q = .wr
 | .ok (o,c)=>c=K/\∃L,q = .ok L/\∀i,i<K->L i=o i
theorem Gk {t:jR} {n K:Nat} {sz:Nat->Nat} (h0:sz 0=d 0+d 1*256) (j:sz 1=d 2+d 3*256) (g:sz 2=d 4+d 5*256) (p:6<=K) (k:6<=n) :
  BW K (ri t d sz ((K+3)/4) K 4 6 (n-6) (fun _=>0) 0) (jX t d n K true):=by
 unfold jX
 rw[ah (by decide),ah aa,ah aa]
 dsimp only
 rw[ri,ah (by decide),ah (by decide),show sz (3-3)=d 0+d 1*256 from h0]
 obtain⟨e,h⟩:∃e,e=(K+3)/4:=⟨_,rfl⟩
 rw[<- h]
 generalize d 0+d 1*256=s1
 cases hd1:kS t (aX d 6) (n-6) s1 e with
 | op=>rfl
 | wr=>rfl
 | ok q =>
  show BW K (ri _ _ _ _ _ _ _ _ _ _) (Ve.bind _ _)
  rw[ri,ah (by decide),ah (by decide),show sz (3-2)=d 2+d 3*256 from j]
  generalize d 2+d 3*256=s2
  cases hd2:kS t (aX d (6+s1)) (n-6-s1) s2 e with
  | op=>rfl
  | wr=>rfl
  | ok l =>
   show BW K (ri _ _ _ _ _ _ _ _ _ _) (Ve.bind _ _)
   rw[ri,ah (by decide),ah (by decide),show sz (3-1)=d 4+d 5*256 from g]
   generalize d 4+d 5*256=s3
   cases hd3:kS t (aX d (6+s1+s2)) (n-6-s1-s2) s3 e with
   | op=>rfl
   | wr=>rfl
   | ok L3 =>
    show BW K (ri _ _ _ _ _ _ _ _ _ _) (Ve.bind _ _)
    rw[ri,ai rfl,ai rfl]
    cases hd4:kS t (aX d (6+s1+s2+s3)) (n-6-s1-s2-s3) (n-6-s1-s2-s3) (K-3*e) with
    | op=>rfl
    | wr=>rfl
    | ok L4 =>
     refine⟨aa,_,rfl,fun i hi=>?_⟩
     by_cases c1:i<e
     ·rw[ai c1,co aa,co aa,co aa,dr aa aa,Nat.sub_zero]
     by_cases c2:i<e+e
     ·rw[ah c1,ai c2,co aa,co aa,dr aa aa,Nat.zero_add]
     by_cases c3:i<e+e+e
     ·rw[ah c1,ah c2,ai c3,co aa,dr aa aa,Nat.zero_add]
     ·rw[ah c1,ah c2,ah c3,dr aa aa,Nat.zero_add]
theorem kW (b o l g:Nat):ek (some ⟨b,o,none⟩) l g=some ⟨b,if g=l then o else o+l*1,none⟩:=rfl
structure KD where
 k:Nat
 p:Nat
 n:Nat
 o:Nat->Nat
 c:Nat
 da:Option Addr
 dc:Nat
 oa:Option Addr
 cp:Nat
 om:ao
 j:ao
theorem vM.of_run {K:Nat} {r:Ve ((Nat->Nat)×Nat)} {q:Ve (Nat->Nat)} (h:BW K r q) {v:Value} {m:ao}
  (k:match r with
   | .op=>v = .tuple #[.slice none 0 0,.int .i64 0]
   | .wr=>v = .tuple #[.slice none 0 0,.int .i64 2]
   | .ok (o,c)=>∃g j,v = .tuple #[.slice g c j,.int .i64 1]/\dH 1 (.slice g c j) c (dw o) m):vM q K v m:=by
 cases r with
 | op=>rw[show q = .op from h];exact k
 | wr=>rw[show q = .wr from h];exact k
 | ok a =>
  obtain⟨o,c⟩:=a;obtain⟨rfl,L,rfl,t⟩:=h;obtain⟨g,j,p,l⟩:=k;exact⟨g,j,p,bR l fun i hi=>by unfold dw;rw[t i aa]⟩
set_option maxHeartbeats 1000000 in
theorem BX (T:jR) (pb:Nat) (sa:Option Addr) (sc:Nat) (ba:Option Addr) (bc:Nat) (hT:D6 G T pb sa sc ba bc) (Y:Option Addr) (N U:Nat) (hd:∀i,d i<256) (V:aU G Y N U d) (hN:N<=2^30) (K:Nat) (hK:K<=2^20) (P:Prop) [Decidable P] :
  av Tryz.prog G 56 #[bf pb,.slice Y N U,ay K,.bool (decide P)] [] (vM (jX T d N K (decide P)) K):=by
 by_cases hP:P
 ·rw[decide_eq_true hP];refine bE Tryz.func56 fun c0 h0 hex=>?_
  obtain⟨E,H⟩:∃E,E=jX T d N K true:=⟨_,rfl⟩
  rw[<- H];refine go ?_;refine ac rfl (fun a9=>?_) (fun a9=>?_)
  ·unfold jX at H;rw[ah (by decide),ai aa] at H
   subst H;refine go ?_;exact af (bx [8,9] rfl)
  refine go ?_;refine ac rfl (fun a5=>?_) (fun a5=>?_)
  ·unfold jX at H;rw[ah (by decide),ah aa,ai aa] at H
   subst H;refine go ?_;exact af (bx [8,9] rfl)
  have bo:=V.le
  obtain⟨b0,o0,rfl⟩:=V.some aa;have w1:aU G (some ⟨b0,o0,none⟩) 2 U d:=V.cut aa
  have wk:∀k,k+2<=6->aU G (some ⟨b0,o0+k,none⟩) (k+2-k) (U-k) (fun i=>d (k+i)):=fun k hk=>by
   have:=V.sub (l:=k) (h:=k+2) aa aa
   rwa[kW,ah aa,Nat.mul_one] at this
  refine fW ?_;dsimp only[fE];refine dk ?_;refine jy (qs:=[39]) [0,1,2,3,4,5,6,7,8,9,10] rfl (by kernel_rfl) ?_
  refine go ?_;refine aA (i_ (m:=[]) (x:=d) hd w1 (by rw[D8];have:=hd 0;have:=hd 1;omega) aa) ?_
  rw[D8];refine go ?_;refine aA (i_ (m:=[]) (x:=fun i=>d (2+i)) (fun i=>hd _) (wk 2 aa) (by rw[D8];have h1:=hd (2+0);have h2:=hd (2+1);show d (2+0)+d (2+1)*256<2^63;omega) aa) ?_
  rw[D8];refine go ?_;refine aA (i_ (m:=[]) (x:=fun i=>d (4+i)) (fun i=>hd _) (wk 4 aa) (by rw[D8];have h1:=hd (4+0);have h2:=hd (4+1);show d (4+0)+d (4+1)*256<2^63;omega) aa) ?_
  rw[D8];refine go ?_;refine au (z:=.int .i64 0) (vs:=[.int .i64 ((d 0+d 1*256:Nat):Int),.int .i64 ((d 2+d 3*256:Nat):Int),.int .i64 ((d 4+d 5*256:Nat):Int)]) rfl rfl z3 rfl rfl rfl rfl hex fun lb b1=>?_
  obtain⟨sz,hsz⟩:∃sz:Nat->Nat,sz=fun i=>if i=0 then d 0+d 1*256 else if i=1 then d 2+d 3*256 else d 4+d 5*256:=⟨_,rfl⟩
  have F:sz 0=d 0+d 1*256:=by rw[hsz];rfl
  have I:sz 1=d 2+d 3*256:=by rw[hsz];rfl
  have J:sz 2=d 4+d 5*256:=by rw[hsz];rfl
  have a0:∀i,sz i<65536:=fun i=>by
   have:=hd 0;have:=hd 1;have:=hd 2;have:=hd 3;have:=hd 4;have:=hd 5
   rw[hsz];dsimp only;split
   ·omega
   split<;>omega
  have r:=Gk (t:=T) (n:=N) (K:=K) (d:=d) F I J aa aa
  rw[<- H] at r;obtain⟨LB,O⟩:∃LB:bk,LB=aj [.int .i64 (sz 0:Nat),.int .i64 (sz 1:Nat),.int .i64 (sz 2:Nat)] 3:=⟨_,rfl⟩
  have a2:∀i,i<3->0+i<LB.n:=fun i hi=>by rw[O];show 0+i<3;omega
  have ad:∀i,i<3->LB.g (0+i) = .int .i64 (sz i:Nat):=fun i hi=>by
   rw[O]
   match i,hi with
   | 0,_=>rfl
   | 1,_=>rfl
   | 2,_=>rfl
  rw[<- F,<- I,<- J,<- O];clear O hsz F I J H;obtain⟨e,he⟩:∃e,e=(K+3)/4:=⟨_,rfl⟩
  rw[<- he] at r;have aw:aU G (ek (some ⟨b0,o0,none⟩) 6 U) (N-6) (U-6) (aX d 6):=V.sub (l:=6) (h:=N) aa (aZ _)
  refine go ?_;refine cT 6 N V rfl rfl rfl rfl rfl rfl rfl aa V.le rfl ?_
  refine go ?_;rw[<- he];refine aH (σ:=KD) [] (fun t=>[(0,bf pb),(1,.slice t.da t.n t.dc),(2,ay K),(10,.slice (bi lb) 3 3),(11,ay e),(12,.slice t.oa t.c t.cp),(46,.int .i64 ((4-t.k:Nat):Int))]) (fun t=>(lb,LB)::(t.om++t.j))
   (fun t=>t.k<=4/\t.p+t.n=N/\aU G t.da t.n t.dc (aX d t.p)/\dH 1 (.slice t.oa t.c t.cp) t.c (dw t.o) t.om/\t.c+t.k*2^20<=4*2^20/\BW K (ri T d sz e K t.k t.p t.n t.o t.c) E) (fun t=>t.k)
   ⟨4,6,N-6,fun _=>0,0,ek (some ⟨b0,o0,none⟩) 6 U,U-6,none,0,[],[]⟩ (.refl _) ⟨aZ _,by dsimp only;omega,aw,.inl ⟨rfl,rfl,rfl⟩,by show 0+4*2^20<=4*2^20;omega,r⟩ ?_
  clear r aw wk w1;rintro⟨k,p,n,o,c,Y,dc,oa,cq,om,j⟩ f ⟨a8,bd,C,hs,a4,r⟩;dsimp only at a8 bd C hs a4 r ⊢;refine go ?_;refine ac rfl (fun bs=>?_) (fun br=>?_)
  ·obtain⟨k,rfl⟩:∃k',k=k'+1:=⟨k-1,aa⟩
   rw[ri] at r;obtain⟨size,y⟩:∃size,size=if k=0 then n else sz (3-k):=⟨_,rfl⟩
   obtain⟨u,B⟩:∃u,u=if k=0 then K-3*e else e:=⟨_,rfl⟩
   rw[<- y,<- B] at r;have bv:u<=K:=by rw[B];split<;>omega
   have a6:size<=2^30:=by
    rw[y];split
    ·omega
    ·have:=a0 (3-k);omega
   refine go ?_;refine bp (σ:=Unit) [] (fun _=>[(0,bf pb),(1,.slice Y n dc),(2,ay K),(10,.slice (bi lb) 3 3),(11,ay e),(12,.slice oa c cq),(14,ay u),(15,ay size),(46,.int .i64 ((4-(k+1):Nat):Int))]) (fun _=>(lb,LB)::(om++j)) (fun _=>True) ?_ ?_
   ·refine ac rfl (fun h3=>?_) (fun h3=>?_)
    ·obtain rfl:k=0:=aa;rw[ai rfl] at y B;refine go ?_;exact⟨(),trivial,⟨rfl,rfl,rfl,rfl,rfl,rfl,by rw[B];rfl,by rw[y];rfl,rfl,trivial⟩,.refl _⟩
    ·rw[ah aa] at y B;refine go ?_;refine aF (v:=.int .i64 (sz (4-(k+1)):Nat)) rfl rfl .here (a2 _ aa) (ad _ aa) rfl ?_
     refine go ?_;exact⟨(),trivial,⟨rfl,rfl,rfl,rfl,rfl,rfl,by rw[B];rfl,by rw[y,show 3-k=4-(k+1) from aa];rfl,rfl,trivial⟩,.refl _⟩
   rintro _ f -;refine go ?_;unfold kS at r;refine ac rfl (fun bm=>?_) (fun be=>?_)
   ·rw[ai aa] at r;refine go ?_;exact af (bx [8,9] (vM.of_run r rfl))
   rw[ah aa] at r;refine go ?_;refine ac rfl (fun bt=>?_) (fun bu=>?_)
   ·rw[ai aa] at r;refine go ?_;exact af (bx [8,9] (vM.of_run r rfl))
   rw[ah aa] at r;have a7:=C.le
   refine go ?_;refine fu size C rfl rfl rfl rfl rfl aa rfl ?_
   refine go ?_;refine ar (xC (d:=aX d p) T pb sa sc ba bc hT Y size dc (fun i=>hd _) (C.cut aa) a6 u aa) ?_ (fm:=(lb,LB)::(om++j)) (hs:=.of_perm an)
   cases hD:kC T (aX d p) size u with
   | op =>
    rw[hD] at r;rintro v m rfl;refine go ?_;refine ac rfl (fun _=>?_) (fun h=>absurd h (by decide))
    refine go ?_;exact af (bx [8,9] (vM.of_run r rfl))
   | wr =>
    rw[hD] at r;rintro v m rfl;refine go ?_;refine ac rfl (fun _=>?_) (fun h=>absurd h (by decide))
    refine go ?_;exact af (bx [8,9] (vM.of_run r rfl))
   | ok L =>
    rw[hD] at r;rintro v m ⟨ra,rc,rfl,hL⟩;refine go ?_;refine ac rfl (fun h=>absurd rfl h) (fun _=>?_)
    obtain⟨src,a3,a1⟩:=yI (M:=(lb,LB)::(om++j)++m++G) hL (fun q hq=>by simp[hq])
    have bb:aU G (ek Y size dc) (n-size) (dc-size) (aX d (p+size)):=by
     have:=C.sub (l:=size) (h:=n) aa (aZ _)
     rwa[show(fun i=>aX d p (size+i))=aX d (p+size) from funext fun i=>by unfold aX;rw[Nat.add_assoc]] at this
    refine fW ?_;dsimp only[fE];refine jy (qs:=qsT) [0,1,3,4,5,2,6,7] rfl (by kernel_rfl) ?_
    refine go ?_;refine cT size n C rfl rfl rfl rfl rfl rfl rfl aa a7 rfl ?_
    refine go ?_;refine bg (s:=0) (src:=src) (k:=u) (len:=c) (v:=.slice oa c cq) (cl:=dw o) (sm:=om) (fm:=(lb,LB)::(m++j)) rfl rfl rfl rfl z5 (by decide) rfl rfl hs
     an a3 (fun x hx=>by rw[a1 x aa];rfl) aa hex rfl ?_
    intro v' om2 W al
    clear al;obtain⟨am,ax,rfl⟩:=bV W;have ab:dH 1 (.slice am (c+u) ax) (c+u) (dw (fj o c u L)) om2:=bR W fun x hx=>by
     have hx:x<(c+u)*(0+1):=hx
     unfold dw;by_cases bq:x<c
     ·rw[ai aa,co aa]
     ·rw[ah aa,a1 _ aa,dr aa aa,show x-c*(0+1)=x-c from aa];rfl
    refine go ?_;exact⟨⟨k,p+size,n-size,fj o c u L,c+u,ek Y size dc,dc-size,am,ax,om2,m++j⟩,by dsimp only;omega,⟨by dsimp only;omega,by dsimp only;omega,bb,ab,by dsimp only;omega,r⟩,⟨rfl,rfl,rfl,rfl,rfl,rfl,by dsimp only;rw[show 4-k=4-(k+1)+1 from aa];rfl,trivial⟩,.of_perm an⟩
  ·obtain rfl:k=0:=aa;rw[ri] at r;refine go ?_;exact af (ii [8,9] (om) (vM.of_run r ⟨_,_,rfl,hs⟩))
 ·rw[decide_eq_false hP];refine bE Tryz.func56 fun c0 h0 hex=>?_
  have H:jX T d N K false=kC T d N K:=ai rfl
  rw[H];refine go ?_;refine ae (xC T pb sa sc ba bc hT Y N U hd V hN K hK) ?_
  cases kC T d N K with
  | op =>
   rintro v m rfl;refine go ?_;exact af (bx [8,9] rfl)
  | wr =>
   rintro v m rfl;refine go ?_;exact af (bx [8,9] rfl)
  | ok L =>
   rintro v m ⟨oa,cq,rfl,hs⟩;refine go ?_;exact af (ii [8,9] (m) ⟨_,_,rfl,hs⟩)
end Go.Proofs.YtogmacnlpclgkaaGreatDoor
