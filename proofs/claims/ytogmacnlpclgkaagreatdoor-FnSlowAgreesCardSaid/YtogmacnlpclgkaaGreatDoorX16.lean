/- Texts 16. -/
import Derived.Test.YtogmacnlpclgkaaGreatDoorX15
set_option linter.all false
namespace Go.Proofs.YtogmacnlpclgkaaGreatDoor
open Go Go.Eng Go.Pz
attribute [local irreducible] RO J av aO
set_option maxRecDepth 20000
variable {G:ao} {d:Nat->Nat}
section
variable {P:Program} [ty:bA P] {qs:List FuncId} {c:World} {n:Nat} {h0:dx} {ops:Array Oper} {Q:Fr->ao->Prop} {rest:List Oper} {f:Fr} {m:ao}
variable {dd:Option Tmp} {T T' tt:TypeId} {pos:String} {aft:Array Edge}
theorem p9 {x y:Operand} {s:ByteArray} {k:IntKind} {I:Int} {i:Nat} {b:UInt8} (hx:ev f x = .string s) (l:ev f y = .int k I) (g:I=(i:Int)) (p:bA.tk P T = .string) (j:s[i]? = some b) (hd:aE n dd=true)
  (h:RO P G qs c n h0 ops Q rest (aV f dd (.int .u8 (b.toNat:Nat))) m):RO P G qs c n h0 ops Q (⟨dd,.index T x y,tt,pos,aft,none⟩::rest) f m:=by
 subst g
 refine cY rfl rfl hd (fun w=>?_) h
 simp[execOp,hx,l,Instr.index,asIntOf,run_underlying (kF p),j]
end
def gH (x:Nat):Nat:=if x=0 then 0 else Nat.log2 x+1
theorem iP {x k:Nat} (h:x<2^k):gH x<=k:=by
 unfold gH
 split
 ·omega
 ·rename_i h0
  have:=(Nat.log2_lt (n:=x) (k:=k) h0).2 h
  omega
theorem Dm {s:ByteArray} (h:((List.range 256).all fun x=>s[x]? == some (UInt8.ofNat (gH x)))=true) {x:Nat} (hx:x<256):s[x]? = some (UInt8.ofNat (gH x)):=by
 have:=List.all_eq_true.1 h x (List.mem_range.2 hx)
 exact eq_of_beq this
theorem Dn {x:Nat} (hx:x<256):(UInt8.ofNat (gH x)).toNat=gH x:=by
 have:=iP (k:=8) hx
 show gH x%256=gH x
 omega
theorem n5 {x j:Nat} (h:2^j<=x):gH x=j+gH (x/2^j):=by
 have h0:x≠0:=by have:=Nat.one_le_two_pow (n:=j);omega
 have g:x/2^j≠0:=by
  have:=Nat.div_pos h (Nat.two_pow_pos j)
  omega
 unfold gH
 rw[ah h0,ah g]
 have i:=Nat.log2_self_le g
 have p:=Nat.lt_log2_self (n:=x/2^j)
 have k:2^(j+Nat.log2 (x/2^j))<=x:=by
  rw[Nat.pow_add];exact Nat.le_trans (Nat.mul_le_mul_left _ i) (Nat.mul_div_le _ _)
 have l:x<2^(j+Nat.log2 (x/2^j)+1):=by
  rw[Nat.add_assoc,Nat.pow_add];have:=Nat.lt_mul_of_div_lt p (Nat.two_pow_pos j)
  rwa[Nat.mul_comm] at this
 have q:Nat.log2 x<j+Nat.log2 (x/2^j)+1:=(Nat.log2_lt h0).2 l
 have r:j+Nat.log2 (x/2^j)<=Nat.log2 x:=(Nat.le_log2 h0).2 k
 omega
theorem HY {m:ao} {x:Nat} (hx:x<256):aO Tryz.prog G 129 #[.int .u8 (x:Nat)] m (.int .i64 (gH x:Nat)):=by
 refine l8 Tryz.func129 fun c h0=>?_
 have:=iP (k:=8) hx
 refine go ?_
 refine p9 rfl rfl rfl rfl (Dm (by kernel_rfl) hx) rfl ?_
 rw[Dn hx]
 refine go ?_
 refine af ?_
 exact cL [2] rfl (post:=[]) (junk:=[]) (.refl _) rfl
theorem Jm {m:ao} {x:Nat} (hx:x<256):aO Tryz.prog G 111 #[.int .u8 (x:Nat)] m (.int .i64 ((8-gH x:Nat):Int)):=by
 refine l8 Tryz.func111 fun c h0=>?_
 have:=iP (k:=8) hx
 refine go ?_
 refine aA (HY hx) ?_
 refine go ?_
 refine af ?_
 exact cL [2] rfl (post:=[]) (junk:=[]) (.refl _) rfl
theorem FC {m:ao} {x:Nat} (hx:x<65536):aO Tryz.prog G 132 #[.int .u16 (x:Nat)] m (.int .i64 (gH x:Nat)):=by
 refine l8 Tryz.func132 fun c h0=>?_
 refine go ?_
 refine bp (σ:=Nat×Nat) [] (fun t=>[(0,.int .u16 (t.1:Nat)),(2,ay t.2)]) (fun _=>[]) (fun t=>t.1<256/\t.2<=8/\gH x=t.2+gH t.1) ?_ ?_
 ·refine ac rfl (fun i=>?_) (fun l=>?_)
  ·refine go ?_;exact⟨(x/2^8,8),⟨by dsimp only;omega,by dsimp only;omega,n5 (j:=8) aa⟩,cF,.refl _⟩
  ·refine go ?_;exact⟨(x,0),⟨by dsimp only;omega,by dsimp only;omega,(Nat.zero_add _).symm⟩,cF,.refl _⟩
 rintro⟨y,n⟩ f ⟨g,p,h⟩
 dsimp only at g p h ⊢
 rw[h]
 have:=iP (k:=8) g
 refine go ?_
 refine p9 rfl rfl rfl rfl (Dm (by kernel_rfl) g) rfl ?_
 rw[Dn g]
 refine go ?_
 refine af ?_
 exact cL [2] rfl (post:=[]) (junk:=[]) (.refl _) rfl
theorem HZ {m:ao} {x:Nat} (hx:x<65536):aO Tryz.prog G 131 #[.int .u16 (x:Nat)] m (.int .i64 ((16-gH x:Nat):Int)):=by
 refine l8 Tryz.func131 fun c h0=>?_
 have:=iP (k:=16) hx
 refine go ?_
 refine aA (FC hx) ?_
 refine go ?_
 refine af ?_
 exact cL [2] rfl (post:=[]) (junk:=[]) (.refl _) rfl
theorem FD {m:ao} {x:Nat} (hx:x<4294967296):aO Tryz.prog G 130 #[.int .u32 (x:Nat)] m (.int .i64 (gH x:Nat)):=by
 refine l8 Tryz.func130 fun c h0=>?_
 refine go ?_
 refine bp (σ:=Nat×Nat) [] (fun t=>[(0,.int .u32 (t.1:Nat)),(2,ay t.2)]) (fun _=>[]) (fun t=>t.1<65536/\t.2<=16/\gH x=t.2+gH t.1) ?_ ?_
 ·refine ac rfl (fun h=>?_) (fun i=>?_)
  ·refine go ?_;exact⟨(x/2^16,16),⟨by dsimp only;omega,by dsimp only;omega,n5 (j:=16) aa⟩,cF,.refl _⟩
  ·refine go ?_;exact⟨(x,0),⟨by dsimp only;omega,by dsimp only;omega,(Nat.zero_add _).symm⟩,cF,.refl _⟩
 rintro⟨z,q⟩ f ⟨r,B,l⟩
 dsimp only at r B l ⊢
 refine go ?_
 refine bp (σ:=Nat×Nat) [] (fun t=>[(0,.int .u32 (t.1:Nat)),(2,ay t.2)]) (fun _=>[]) (fun t=>t.1<256/\t.2<=24/\gH x=t.2+gH t.1) ?_ ?_
 ·refine ac rfl (fun h=>?_) (fun i=>?_)
  ·refine go ?_;exact⟨(z/2^8,q+8),⟨by dsimp only;omega,by dsimp only;omega,by rw[l,n5 (x:=z) (j:=8) aa,Nat.add_assoc]⟩,cF,.refl _⟩
  ·refine go ?_;exact⟨(z,q),⟨by dsimp only;omega,by dsimp only;omega,l⟩,cF,.refl _⟩
 rintro⟨y,n⟩ f ⟨g,u,p⟩
 dsimp only at g u p ⊢
 rw[p]
 have:=iP (k:=8) g
 refine go ?_
 refine p9 rfl rfl rfl rfl (Dm (by kernel_rfl) g) rfl ?_
 rw[Dn g]
 refine go ?_
 refine af ?_
 exact cL [2] rfl (post:=[]) (junk:=[]) (.refl _) rfl
theorem Do {m:ao} {x:Nat} (hx:x<4294967296):aO Tryz.prog G 115 #[.int .u32 (x:Nat)] m (.int .i64 ((32-gH x:Nat):Int)):=by
 refine l8 Tryz.func115 fun c h0=>?_
 have:=iP (k:=32) hx
 refine go ?_
 refine aA (FD hx) ?_
 refine go ?_
 refine af ?_
 exact cL [2] rfl (post:=[]) (junk:=[]) (.refl _) rfl
theorem iQ (S:bN G) (h g:Nat) (x:Int) (s:RS) (i:Option Addr) (n j off start bits cnt:Nat) (k:off<2^32) (str:ByteArray) :
  av Tryz.prog G 104 #[bf h,.string str] [(h,nG g i n j off start bits cnt),(g,az x s)] (fun v m=>dM S .z v/\m=[(h,nG g i n j off start bits cnt),(g,az x s)]):=by
 refine bE Tryz.func104 fun c h0 hex=>?_
 refine go ?_
 refine ae (c_ S g x s _ _) ?_
 rintro v m ⟨⟨b',rfl⟩,rfl⟩
 refine go ?_
 exact af (cE [4] ([(h,_),(g,az x s)]) (junk:=[]) ⟨⟨b',rfl⟩,rfl⟩ (aR.of_perm (List.Perm.swap _ _ _)))
def tu (i:Nat) (g:Option Addr) (n h start a B:Nat):bk:=nG i g n h (a/8) start B (a%8)
def jM (start a b:Nat):Prop:=b<=a%8\/8*start+b<=a
instance (start a b:Nat):Decidable (jM start a b):=by unfold jM;infer_instance
theorem jN (S:bN G) (h g:Nat) (x:Int) (s:RS) (j:Option Addr) (n k:Nat) (hd:∀i,d i<256) (M:aU G j n k d) (K:n<=2^20) (a B start b:Nat) (O:iE d a (a%8) B) (ha:a/8<=n) (t:start<2^32) (hb:b<=31) :
  av Tryz.prog G 103 #[bf h,.int .u8 (b:Nat)] [(h,tu g j n k start a B),(g,az x s)] (fun v m =>
   (jM start a b/\v = .tuple #[.int .u32 (dQ d a b:Nat),.nilIface]/\b<=a/\∃B',iE d (a-b) ((a-b)%8) B'/\(a-b)/8<=n/\m=[(h,tu g j n k start (a-b) B'),(g,az x s)]) \/
   (¬jM start a b/\(∃e,v = .tuple #[.int .u32 0,e]/\dM S .z e)/\∃off B' k',off<2^32/\m=[(h,nG g j n k off start B' k'),(g,az x s)])):=by
 refine bE Tryz.func103 fun c h0 hex=>?_
 refine go ?_
 have J:(a-a%8)/8=a/8:=aa
 have ht:=nk (G:=G) h g j n k hd M K a (a%8) B start b O aa aa t aa
 rw[J] at ht
 refine ae ht ?_
 rintro v m (⟨u,rfl,k',B',r,W,p,Y,rfl⟩|⟨u,rfl,off,B',k',r,rfl⟩)
 ·have U:=p.al
  have V:=p.le
  have H:2^b<=2^31:=Nat.pow_le_pow_right aa hb
  have C:1<=2^b:=Nat.one_le_two_pow
  have F:=p.lt
  have y:k'<=b+7:=aa
  have q:=vw p r y
  have I:B'/2^(k'-b)<=B':=Nat.div_le_self _ _
  have l:k'-b=(a-b)%8:=aa
  refine go ?_;refine af ?_;refine ag [4,5] (post:=[(h,tu g j n k start (a-b) B'),(g,az x s)]) (junk:=[]) (.inl ⟨u,?_,aa,B',by rw[<- l];exact p.less r,aa,rfl⟩) rfl (.cons ?_ (.refl _))
  ·show Value.tuple #[.int .u32 ((B'/2^(k'-b)&&&1*2^b-1:Nat):Int),.nilIface] = .tuple #[.int .u32 ((dQ d a b:Nat):Int),.nilIface]
   rw[Nat.one_mul,Nat.and_two_pow_sub_one_eq_mod,q]
  ·refine(FA g j n k _ _ _ _ _).trans ?_
   unfold tu;rw[l,show(a-k')/8=(a-b)/8 from aa]
 ·refine go ?_;refine ae (eZ S g x s _) ?_
  rintro v m ⟨⟨b',rfl⟩,rfl⟩;refine go ?_;exact af (cE [4,5] ([(h,_),(g,az x s)]) (junk:=[]) (.inr ⟨u,⟨_,rfl,b',rfl⟩,off,B',k',r,rfl⟩) (aR.of_perm (List.Perm.swap _ _ _)))
theorem n6 (S:bN G) (g:Nat) (x:Int) (s:RS) (r:Option Addr) (n j:Nat) (hd:∀i,d i<256) (H:aU G r n j d) (O:n<=2^20) (off start:Nat) (M:off<n) (F:start<2^32) :
  av Tryz.prog G 102 #[bf g,.slice r n j,ay off,ay start] [(g,az x s)] (fun v m=>m=[(g,az x s)] /\
   if d off=0 then ∃e,v = .tuple #[.agg #[.pointer none,.slice none 0 0,.int .u32 0,.int .u32 0,.int .u32 0,.int .u32 0],e]/\dM S .z e
   else v = .tuple #[.agg #[bf g,.slice r n j,.int .u32 (off:Nat),.int .u32 (start:Nat),.int .u32 (d off:Nat),.int .u32 (Nat.log2 (d off):Nat)],.nilIface]):=by
 refine bE Tryz.func102 fun c h0 hex=>?_
 obtain⟨b0,q,rfl⟩:=H.some aa
 have l:=hd off
 refine go ?_
 refine aC z191 rfl hex fun p B=>?_
 refine go ?_
 refine ac rfl (fun U=>?_) (fun I=>?_)
 ·have u:d off=0:=aa
  refine go ?_;refine bU (vs:=[.pointer none,.slice none 0 0,.int .u32 0,.int .u32 0,.int .u32 0,.int .u32 0]) rfl rfl z191 rfl rfl rfl rfl ?_
  refine go ?_;refine ae (c_ S g x s _ _) ?_
  rintro v m ⟨⟨b',rfl⟩,rfl⟩;refine go ?_;refine ak (s:=5) (vs:=[.pointer none,.slice none 0 0,.int .u32 0,.int .u32 0,.int .u32 0,.int .u32 0]) rfl rfl rfl rfl (cC rfl) (.there .here) (aZ 6) rfl hex ?_
  refine go ?_;refine af ?_;exact cH [.cell 8 191,.tmp 9] [.agg #[.pointer none,.slice none 0 0,.int .u32 0,.int .u32 0,.int .u32 0,.int .u32 0],.iface 166 (bf b')] ⟨⟨p,0,5,_,rfl,rfl,rfl,List.mem_cons_of_mem _ List.mem_cons_self,aZ 6,rfl⟩,rfl,trivial⟩ (post:=[(g,az x s)]) (junk:=[(p,_)]) ⟨rfl,by rw[ai u];exact⟨_,rfl,b',rfl⟩⟩ rfl (.refl _)
 ·have h:d off≠0:=aa
  have C:gH (d off)=Nat.log2 (d off)+1:=ah h
  have y:=iP (k:=8) l
  refine go ?_;refine aA (Jm l) ?_
  rw[show 8-gH (d off)=7-Nat.log2 (d off) from aa];refine go ?_;rw[show 7-(7-Nat.log2 (d off))=Nat.log2 (d off) from aa];refine bU (vs:=[bf g,.slice (some ⟨b0,q,none⟩) n j,.int .u32 (off:Nat),.int .u32 (start:Nat),.int .u32 (d off:Nat),.int .u32 (Nat.log2 (d off):Nat)]) rfl rfl z191 rfl rfl rfl rfl ?_
  refine go ?_;refine aC z191 rfl hex fun K J=>?_
  refine go ?_;refine ak (s:=5) (vs:=[bf g,.slice (some ⟨b0,q,none⟩) n j,.int .u32 (off:Nat),.int .u32 (start:Nat),.int .u32 (d off:Nat),.int .u32 (Nat.log2 (d off):Nat)]) rfl rfl rfl rfl (cC rfl) .here (aZ 6) rfl hex ?_
  refine go ?_;refine cz (s:=5) rfl rfl rfl .here (aZ 6) rfl ?_
  refine go ?_;refine ak (s:=5) (vs:=[bf g,.slice (some ⟨b0,q,none⟩) n j,.int .u32 (off:Nat),.int .u32 (start:Nat),.int .u32 (d off:Nat),.int .u32 (Nat.log2 (d off):Nat)]) rfl rfl rfl rfl (cC rfl) (.there .here) (aZ 6) rfl hex ?_
  refine go ?_;refine af ?_;exact cH [.cell 8 191,.tmp 9] [.agg #[bf g,.slice (some ⟨b0,q,none⟩) n j,.int .u32 (off:Nat),.int .u32 (start:Nat),.int .u32 (d off:Nat),.int .u32 (Nat.log2 (d off):Nat)],.nilIface] ⟨⟨p,0,5,_,rfl,rfl,rfl,List.mem_cons_of_mem _ List.mem_cons_self,aZ 6,rfl⟩,rfl,trivial⟩ (post:=[(g,az x s)]) (junk:=[(K,_),(p,_)]) ⟨rfl,by rw[ah h];rfl⟩ rfl (.of_perm (List.perm_append_comm (l₁:=[_,_]) (l₂:=[_])))
end Go.Proofs.YtogmacnlpclgkaaGreatDoor
namespace Go.Proofs.YtogmacnlpclgkaaGreatDoor
open Go Go.Eng Go.Pz
attribute [local irreducible] RO J av aO
set_option maxRecDepth 20000
variable {G:ao} {d:Nat->Nat}
def kM (k:IntKind) (N:Nat) (x:Nat->Int) (T:TypeId):bk:=⟨N,fun i=>.int k (x i),T,(0,0)⟩
def Br (g:Nat->Value) (sh:Nat->Int) (n log:Nat):Prop:=∀p,p<2^log->g (p*3) = .int .u8 (aI sh n (2^log) p:Nat)/\g (p*3+1) = .int .u8 (aG sh n log p:Nat)/\g (p*3+2) = .int .u16 (bO sh n log p:Nat)
def Jn (sh:Nat->Int) (s:Nat):Nat:=if sh s<0 then 1 else(sh s).toNat
set_option maxHeartbeats 1000000 in
theorem yu (rb F tb:Nat) (r:Int) (sh:Nat->Int) (n log tl tc:Nat) (l:bk) (I:fe sh n (2^log)) (hn:n<=256) (h5:5<=log) (h9:log<=9) (b3:2^log<=tl) (cc:tl<=tc) (cu:tl*3<=l.n) (b1:l.fr=(0,0)) :
  av Tryz.prog G 128 #[bf rb,.int .i64 r,.slice (bi F) n 256,.slice (bi tb) tl tc,ay log] [(F,kM .i16 256 sh 230),(tb,l)] (fun v m =>
   v = .nilIface/\∃g,m=[(F,kM .i16 256 sh 230),(tb,⟨l.n,g,l.T,(0,0)⟩)]/\Br g sh n log/\∀c,3*2^log<=c->g c=l.g c):=by
 refine bE Tryz.func128 fun c h0 hex=>?_
 have b4:=I.ok.le
 have bu:=I.ok.pos
 obtain⟨size,hsz⟩:∃size,size=2^log:=⟨_,rfl⟩
 refine go ?_
 refine aC z235 rfl hex fun V cq=>?_
 refine go ?_
 refine ez [(0,bf rb),(1,.int .i64 r),(2,.slice (bi F) n 256),(3,.slice (bi tb) tl tc),(4,ay log),(11,ay size),(12,.int .i64 ((size:Nat)-1-(0:Nat):Int)),(13,bf V),(31,.slice (bi F) n 256),(32,ay n),(33,.int .i64 ((0:Nat):Int))]
  [(V,bn .u16 256 (fun _=>0) 235),(F,kM .i16 256 sh 230),(tb,l)]
  ⟨rfl,rfl,rfl,rfl,rfl,by show Value.int .i64 ((1*2^log:Nat):Int)=_;rw[hsz,Nat.one_mul],by show Value.int .i64 ((1*2^log-1:Nat):Int)=_;rw[hsz,Nat.one_mul];congr 1;omega,rfl,rfl,rfl,rfl,trivial⟩ ci fun f=>?_
 rw[<- hsz] at I b4 bu b3
 refine aH (σ:=Nat×(Nat->Nat)×(Nat->Value)) [] (fun t=>[(0,bf rb),(1,.int .i64 r),(2,.slice (bi F) n 256),(3,.slice (bi tb) tl tc),(4,ay log),(11,ay size),(12,.int .i64 ((size:Nat)-1-(aL sh t.1:Nat):Int)),(13,bf V),(31,.slice (bi F) n 256),(32,ay n),(33,ay t.1)])
  (fun t=>[(V,bn .u16 256 t.2.1 235),(F,kM .i16 256 sh 230),(tb,⟨l.n,t.2.2,l.T,(0,0)⟩)])
  (fun t=>t.1<=n/\(∀s,s<t.1->t.2.1 s=Jn sh s)/\(∀k,k<aL sh t.1->t.2.2 ((size-1-k)*3) = .int .u8 (iD sh n k:Nat))/\∀c,3*size<=c->t.2.2 c=l.g c) (fun t=>n-t.1) (0,fun _=>0,l.g)
  (.skip (.skip (.cons (by rw[<- b1]) .nil))) ⟨Nat.zero_le _,fun s hs=>absurd hs (Nat.not_lt_zero _),fun k hk=>absurd hk (Nat.not_lt_zero _),fun _ _=>rfl⟩ ?_
 rintro⟨i,y,g⟩ f ⟨hi,hy,hg,a2⟩
 dsimp only at hi hy hg a2 ⊢
 refine go ?_
 refine ac rfl (fun cs=>?_) (fun cr=>?_)
 ·have ad:i<n:=aa
  have b8:=I.ge i ad
  have bm:=sA (sh:=sh) ad
  have a8:=I.sum
  refine go ?_;refine aF (v:=.int .i16 (sh i)) rfl rfl (.there .here) (by show 0+i<256;omega) (by show Value.int .i16 (sh (0+i))=_;rw[Nat.zero_add]) rfl ?_
  refine go ?_;refine ac rfl (fun hp=>?_) (fun cb=>?_)
  ·obtain⟨w,hw⟩:∃w:Nat,sh i=(w:Int):=⟨(sh i).toNat,aa⟩
   rw[hw] at bm;have a0:aL sh (i+1)=aL sh i:=by rw[aL,ah aa];rfl
   refine go ?_;refine ke (v:=w) rfl rfl hw rfl .here (by show 0+i<256;omega) hex ?_
   refine go ?_;refine⟨(i+1,cV y (0+i) w,g),by dsimp only;omega,⟨by dsimp only;omega,fun s hs=>?_,by dsimp only;rw[a0];exact hg,a2⟩,⟨rfl,rfl,rfl,rfl,rfl,rfl,by dsimp only;rw[a0];rfl,rfl,rfl,rfl,rfl,trivial⟩,.refl _⟩
   have hs:s<i+1:=hs
   show cV y (0+i) w s=_
   rw[Nat.zero_add];by_cases K:s=i
   ·subst K;rw[bL];unfold Jn;rw[ah aa,hw];rfl
   ·rw[bz _ _ _ _ K];exact hy s aa
  ·have a0:aL sh (i+1)=aL sh i+1:=by rw[aL,ai aa]
   have cx:=kl sh (i:=i+1) (j:=n) ad
   have hI:((size:Nat):Int)-1-((aL sh i:Nat):Int)=((size-1-aL sh i:Nat):Int):=aa
   rw[hI];refine go ?_;refine bD (v:=.int .u8 (i:Nat)) rfl rfl rfl rfl (.there (.there .here)) (by show _<l.n;omega) rfl hex ?_
   refine go ?_;refine⟨(i+1,cV y (0+i) 1,gK g ((size-1-aL sh i)*3) (.int .u8 (i:Nat))),by dsimp only;omega,⟨by dsimp only;omega,fun s hs=>?_,fun k hk=>?_,fun c hc=>?_⟩,⟨rfl,rfl,rfl,rfl,rfl,rfl,?_,rfl,rfl,rfl,rfl,trivial⟩,.skip (.skip (.cons ?_ .nil))⟩
   ·have hs:s<i+1:=hs
    show cV y (0+i) 1 s=_
    rw[Nat.zero_add];by_cases K:s=i
    ·subst K;rw[bL];unfold Jn;rw[ai aa]
    ·rw[bz _ _ _ _ K];exact hy s aa
   ·have hk:k<aL sh (i+1):=hk
    show gK g ((size-1-aL sh i)*3) (.int .u8 (i:Nat)) ((size-1-k)*3)=_
    by_cases K:k=aL sh i
    ·rw[K,cG,pZ sh aa ad]
    ·rw[aT _ _ _ _ aa];exact hg k aa
   ·have hc:3*size<=c:=hc
    show gK g ((size-1-aL sh i)*3) (.int .u8 (i:Nat)) c=_
    rw[aT _ _ _ _ aa];exact a2 c hc
   ·show Value.int .i64 (((size-1-aL sh i:Nat):Int)-1)=Value.int .i64 (((size:Nat):Int)-1-((aL sh (i+1):Nat):Int))
    rw[a0];congr 1;omega
   ·show(⟨l.n,gK g (0+(size-1-aL sh i)*(2+1)+0) (.int .u8 (i:Nat)),l.T,(0,0)⟩:bk).obj=_
    rw[show 0+(size-1-aL sh i)*(2+1)+0=(size-1-aL sh i)*3 from aa]
 ·have ad:i=n:=aa
  subst ad;obtain⟨H,hH⟩:∃H,H=size-aL sh i:=⟨_,rfl⟩
  have ca:=I.low
  have a8:=I.sum
  have cl:aL sh i<=size:=aa
  refine go ?_;refine ez [(0,bf rb),(1,.int .i64 r),(3,.slice (bi tb) tl tc),(4,ay log),(11,ay size),(12,.int .i64 ((size:Nat)-1-(aL sh i:Nat):Int)),(13,bf V),(16,.int .i64 (db size 0:Nat)),(17,.int .i64 (jJ size:Nat)),(18,.int .i64 ((size-1:Nat):Int)),(65,.slice (bi F) i 256),(66,ay i),(67,.int .i64 ((0:Nat):Int))]
   [(V,bn .u16 256 y 235),(F,kM .i16 256 sh 230),(tb,⟨l.n,g,l.T,(0,0)⟩)]
   ⟨rfl,rfl,rfl,rfl,rfl,rfl,rfl,by show Value.int .i64 0=_;rw[kL];rfl,rfl,rfl,rfl,rfl,rfl,trivial⟩ (.refl _) fun f=>?_
  refine aH (σ:=Nat×Nat×(Nat->Value)) [] (fun t=>[(0,bf rb),(1,.int .i64 r),(3,.slice (bi tb) tl tc),(4,ay log),(11,ay size),(12,.int .i64 ((size:Nat)-1-(aL sh i:Nat):Int)),(13,bf V),(16,.int .i64 (db size t.2.1:Nat)),(17,.int .i64 (jJ size:Nat)),(18,.int .i64 ((size-1:Nat):Int)),(65,.slice (bi F) i 256),(66,ay i),(67,ay t.1)])
   (fun t=>[(V,bn .u16 256 y 235),(F,kM .i16 256 sh 230),(tb,⟨l.n,t.2.2,l.T,(0,0)⟩)])
   (fun t=>t.1<=i/\t.2.1<=size/\fK size H t.2.1=bX sh t.1/\(0<H->db size t.2.1<H)/\(H=0->t.2.1=0)/\(∀p,p<H->gG size p<t.2.1->t.2.2 (p*3) = .int .u8 (fL sh i (fK size H (gG size p)):Nat))/\(∀k,k<aL sh i->t.2.2 ((size-1-k)*3) = .int .u8 (iD sh i k:Nat))/\∀c,3*size<=c->t.2.2 c=l.g c) (fun t=>i-t.1) (0,0,g)
   (.refl _) ⟨Nat.zero_le _,Nat.zero_le _,rfl,fun h=>by show db size 0<H;rw[kL];exact h,fun _=>rfl,fun p _ hp=>absurd hp (Nat.not_lt_zero _),hg,a2⟩ ?_
  rintro⟨a,jj,O⟩ f ⟨ha,hj,bW,J,U,u,C,B⟩;dsimp only at ha hj bW J U u C B ⊢;refine go ?_;refine ac rfl (fun ch=>?_) (fun cd=>?_)
  ·have ab:a<i:=aa
   have cn:=I.ge a ab
   have bm:=sA (sh:=sh) ab
   have al:bX sh (a+1)=bX sh a+(sh a).toNat:=rfl
   have cp:=gd sh (i:=a+1) (j:=i) ab
   refine go ?_;refine aF (v:=.int .i16 (sh a)) rfl rfl (.there .here) (by show 0+a<256;omega) (by show Value.int .i16 (sh (0+a))=_;rw[Nat.zero_add]) rfl ?_
   refine go ?_;refine aH (σ:=Nat×Nat×(Nat->Value)) [] (fun t=>[(0,bf rb),(1,.int .i64 r),(3,.slice (bi tb) tl tc),(4,ay log),(11,ay size),(12,.int .i64 ((size:Nat)-1-(aL sh i:Nat):Int)),(13,bf V),(16,.int .i64 (db size t.2.1:Nat)),(17,.int .i64 (jJ size:Nat)),(18,.int .i64 ((size-1:Nat):Int)),(19,ay a),(20,.int .i16 (sh a)),(21,ay t.1),(65,.slice (bi F) i 256),(66,ay i),(67,ay a)])
    (fun t=>[(V,bn .u16 256 y 235),(F,kM .i16 256 sh 230),(tb,⟨l.n,t.2.2,l.T,(0,0)⟩)])
    (fun t=>t.1<=(sh a).toNat/\t.2.1<=size/\fK size H t.2.1=bX sh a+t.1/\(0<H->db size t.2.1<H)/\(H=0->t.2.1=0)/\(∀p,p<H->gG size p<t.2.1->t.2.2 (p*3) = .int .u8 (fL sh i (fK size H (gG size p)):Nat))/\(∀k,k<aL sh i->t.2.2 ((size-1-k)*3) = .int .u8 (iD sh i k:Nat))/\∀c,3*size<=c->t.2.2 c=l.g c) (fun t=>(sh a).toNat-t.1) (0,jj,O)
    (.refl _) ⟨Nat.zero_le _,hj,bW,J,U,u,C,B⟩ ?_
   clear u C B J U bW hj O jj;rintro⟨j,jj,O⟩ f ⟨a4,hj,bW,J,U,u,C,B⟩;dsimp only at a4 hj bW J U u C B ⊢;refine go ?_;have a1:H<=size:=aa
   have a6:∀x,x&&&(size-1)=x%size:=fun x=>by rw[hsz];exact Nat.and_two_pow_sub_one_eq_mod x log
   refine ac rfl (fun ba=>?_) (fun a9=>?_)
   ·have b6:0<H:=aa
    have bt:=J b6
    have gz:=o7 I.ok jj
    have cw:jJ size<=1024:=by unfold jJ;omega
    have bo:jj<size:=by
     rcases Nat.lt_or_ge jj size with h|h
     ·exact h
     ·exfalso
      have am:jj=size:=aa
      have:=iC I.ok a1
      rw[am,this] at bW;omega
    refine go ?_;refine bD (v:=.int .u8 (a:Nat)) rfl rfl rfl rfl (.there (.there .here)) (by show _<l.n;omega) rfl hex ?_
    refine go ?_;obtain⟨g2,W⟩:∃g2,g2=gK O (db size jj*3) (.int .u8 (a:Nat)):=⟨_,rfl⟩
    refine ez [(0,bf rb),(1,.int .i64 r),(3,.slice (bi tb) tl tc),(4,ay log),(11,ay size),(12,.int .i64 ((size:Nat)-1-(aL sh i:Nat):Int)),(13,bf V),(16,.int .i64 (db size (jj+1):Nat)),(17,.int .i64 (jJ size:Nat)),(18,.int .i64 ((size-1:Nat):Int)),(19,ay a),(20,.int .i16 (sh a)),(21,ay j),(65,.slice (bi F) i 256),(66,ay i),(67,ay a)]
     [(V,bn .u16 256 y 235),(F,kM .i16 256 sh 230),(tb,⟨l.n,g2,l.T,(0,0)⟩)]
     ⟨rfl,rfl,rfl,rfl,rfl,rfl,rfl,by show Value.int .i64 (((db size jj+jJ size)&&&(size-1):Nat):Int)=Value.int .i64 ((db size (jj+1):Nat):Int);rw[a6,pW],rfl,rfl,rfl,rfl,rfl,rfl,rfl,rfl,trivial⟩ (.skip (.skip (.cons ?_ .nil))) fun f=>?_
    ·show(⟨l.n,gK O (0+db size jj*(2+1)+0) (.int .u8 (a:Nat)),l.T,(0,0)⟩:bk).obj=_
     rw[W,show 0+db size jj*(2+1)+0=db size jj*3 from aa]
    refine aH (σ:=Nat) [] (fun j2=>[(0,bf rb),(1,.int .i64 r),(3,.slice (bi tb) tl tc),(4,ay log),(11,ay size),(12,.int .i64 ((size:Nat)-1-(aL sh i:Nat):Int)),(13,bf V),(16,.int .i64 (db size j2:Nat)),(17,.int .i64 (jJ size:Nat)),(18,.int .i64 ((size-1:Nat):Int)),(19,ay a),(20,.int .i16 (sh a)),(21,ay j),(65,.slice (bi F) i 256),(66,ay i),(67,ay a)])
     (fun _=>[(V,bn .u16 256 y 235),(F,kM .i16 256 sh 230),(tb,⟨l.n,g2,l.T,(0,0)⟩)])
     (fun j2=>jj<j2/\j2<=size/\fK size H j2=bX sh a+j+1/\∀p,p<H->gG size p<j2->g2 (p*3) = .int .u8 (fL sh i (fK size H (gG size p)):Nat)) (fun j2=>size-j2) (jj+1)
     (.refl _) ⟨aa,aa,by rw[fK,ai bt,bW],fun p hp bv=>?_⟩ ?_
    ·by_cases K:gG size p=jj
     ·have a3:p=db size jj:=by rw[<- K,iB I.ok aa]
      rw[W,K,bW,nj sh (s:=a) aa aa ab,a3,cG]
     ·have cm:p≠db size jj:=fun h=>K (by rw[h,nh I.ok bo])
      rw[W,aT _ _ _ _ aa];exact u p hp aa
    rintro j2 f ⟨k1,k2,k3,k4⟩;refine go ?_;refine ac rfl (fun bs=>?_) (fun ce=>?_)
    ·have cS:j2<size:=by
      rcases Nat.lt_or_ge j2 size with h|h
      ·exact h
      ·exfalso
       have am:j2=size:=aa
       rw[am,pX] at bs;omega
     have bb:=o7 I.ok j2
     have bd:¬db size j2<H:=aa
     refine go ?_;refine⟨j2+1,aa,⟨aa,aa,by rw[fK,ah bd];exact k3,fun p hp bv=>?_⟩,⟨rfl,rfl,rfl,rfl,rfl,rfl,rfl,by show Value.int .i64 (((db size j2+jJ size)&&&(size-1):Nat):Int)=Value.int .i64 ((db size (j2+1):Nat):Int);rw[a6,pW],rfl,rfl,rfl,rfl,rfl,rfl,rfl,rfl,trivial⟩,.refl _⟩
     by_cases K:gG size p=j2
     ·exfalso
      have a3:p=db size j2:=by rw[<- K,iB I.ok aa]
      omega
     ·exact k4 p hp aa
    ·have bb:=o7 I.ok j2
     refine go ?_;refine⟨(j+1,j2,g2),by dsimp only;omega,⟨by dsimp only;omega,k2,k3,fun _=>by dsimp only;omega,fun h=>absurd h aa,k4,fun k hk=>?_,fun c hc=>?_⟩,cF,.refl _⟩
     ·dsimp only;rw[W,aT _ _ _ _ aa];exact C k hk
     ·have hc:3*size<=c:=hc
      dsimp only;rw[W,aT _ _ _ _ aa];exact B c hc
   ·refine go ?_;have am:j=(sh a).toNat:=aa
    subst am;exact⟨(a+1,jj,O),by dsimp only;omega,⟨by dsimp only;omega,hj,by dsimp only;rw[al];exact bW,J,U,u,C,B⟩,cF,.refl _⟩
  ·have ab:a=i:=aa
   subst ab;have a1:H<=size:=aa
   have ax:db size jj=0:=by
    rcases Nat.eq_zero_or_pos H with h|h
    ·rw[U h,kL]
    ·rw[su I.ok a1 hj (J h) aa,pX]
   have a4:∀p,p<H->gG size p<jj:=fun p hp=>by
    have h:0<H:=aa
    rw[su I.ok a1 hj (J h) aa];exact ni I.ok p
   have a5:∀q,q<size->O (q*3) = .int .u8 (aI sh a size q:Nat):=fun q hq=>by
    unfold aI;dsimp only;rw[<- hH];by_cases Y:q<H
    ·rw[ai Y];exact u q Y (a4 q Y)
    ·rw[ah Y];have:=C (size-1-q) aa
     rwa[show size-1-(size-1-q)=q from aa] at this
   have b2:∀q,q<size->aI sh a size q<a:=fun q hq=>by
    by_cases Y:q<size-aL sh a
    ·exact(gf I Y).1
    ·exact(gR Y hq).1
   rw[ax];refine go ?_;refine ac rfl (fun h=>absurd h (by simp)) (fun _=>?_)
   refine go ?_;refine aH (σ:=Nat×(Nat->Nat)×(Nat->Value)) [] (fun t=>[(0,bf rb),(1,.int .i64 r),(3,.slice (bi tb) tl tc),(4,ay log),(11,ay size),(13,bf V),(22,ay t.1)])
    (fun t=>[(V,bn .u16 256 t.2.1 235),(F,kM .i16 256 sh 230),(tb,⟨l.n,t.2.2,l.T,(0,0)⟩)])
    (fun t=>t.1<=size/\(∀s,s<a->t.2.1 s=Jn sh s+jK (aI sh a size) s t.1)/\(∀q,q<size->t.2.2 (q*3) = .int .u8 (aI sh a size q:Nat))/\(∀q,q<t.1->t.2.2 (q*3+1) = .int .u8 (aG sh a log q:Nat)/\t.2.2 (q*3+2) = .int .u16 (bO sh a log q:Nat))/\∀c,3*size<=c->t.2.2 c=l.g c) (fun t=>size-t.1) (0,y,O)
    (.refl _) ⟨Nat.zero_le _,fun s hs=>hy s hs,a5,fun q hq=>absurd hq (Nat.not_lt_zero _),B⟩ ?_
   clear a5 u C B hy a4 ax J U bW hj O jj y;rintro⟨p,y,O⟩ f ⟨hp,hy,u,C,B⟩;dsimp only at hp hy u C B ⊢;refine go ?_;refine ac rfl (fun ba=>?_) (fun a9=>?_)
   ·have al:p<size:=aa
    have hs:=b2 p al
    have bq:=p8 I al
    have a7:y (aI sh a size p)=eH sh a size p:=hy _ hs
    have bc:=I
    rw[hsz] at bc;obtain⟨q1,q2,q3⟩:=h_ bc (p:=p) (by rw[<- hsz];exact al)
    rw[<- hsz] at q1 q3;refine go ?_;refine aF (v:=.int .u8 (aI sh a size p:Nat)) rfl rfl (.there (.there .here)) (by show _<l.n;omega) (by show O (0+p*(2+1)+0)=_;rw[show 0+p*(2+1)+0=p*3 from aa];exact u p al) rfl ?_
    refine go ?_;rw[show y (0+aI sh a size p)=eH sh a size p by rw[Nat.zero_add];exact a7]
    have b9:gH (eH sh a size p)=Nat.log2 (eH sh a size p)+1:=ah aa
    have b7:gH (eH sh a size p)<=16:=iP aa
    have aw:aG sh a log p=log-Nat.log2 (eH sh a size p):=by unfold aG;rw[<- hsz]
    have aM:bO sh a log p=eH sh a size p*2^aG sh a log p-size:=by unfold bO;rw[<- hsz]
    have b5:Nat.log2 (eH sh a size p)<=log:=by
     have:=(Nat.log2_lt (n:=eH sh a size p) (k:=log+1) aa).2 (by rw[Nat.pow_succ,<- hsz];omega)
     omega
    obtain⟨cN,be⟩:∃cN,cN=eH sh a size p:=⟨_,rfl⟩
    rw[<- be] at bq a7 q1 b9 b7 aw aM b5 ⊢;have b8:cN*2^aG sh a log p<=2*size:=by
     rw[aM] at q3;generalize cN*2^aG sh a log p=M at q1 q3 ⊢;have:=Nat.one_le_two_pow (n:=aG sh a log p)
     omega
    refine go ?_;refine ac rfl (fun h0=>absurd h0 aa) (fun _=>?_)
    refine go ?_;refine aA (HZ (x:=cN) aa) ?_
    rw[show 16-gH cN=15-Nat.log2 cN from aa];refine go ?_;rw[show 15-(15-Nat.log2 cN)=Nat.log2 cN from aa,<- aw];refine bD (v:=.int .u8 (aG sh a log p:Nat)) rfl rfl rfl rfl (.there (.there .here)) (by show _<l.n;omega) rfl hex ?_
    refine go ?_;rw[<- aM];refine bD (v:=.int .u16 (bO sh a log p:Nat)) rfl rfl rfl rfl (.there (.there .here)) (by show _<l.n;omega) rfl hex ?_
    refine go ?_;refine⟨(p+1,cV y (0+aI sh a size p) (cN+1),gK (gK O (p*3+1) (.int .u8 (aG sh a log p:Nat))) (p*3+2) (.int .u16 (bO sh a log p:Nat))),by dsimp only;omega,⟨by dsimp only;omega,fun s' br=>?_,fun q hq=>?_,fun q hq=>?_,fun c hc=>?_⟩,cF,.skip (.skip (.cons ?_ .nil))⟩
    ·show cV y (0+aI sh a size p) (cN+1) s'=Jn sh s'+jK (aI sh a size) s' (p+1)
     rw[Nat.zero_add,jK];by_cases K:s'=aI sh a size p
     ·rw[K,bL,ai rfl,<- Nat.add_assoc,<- hy _ hs,a7]
     ·rw[bz _ _ _ _ K,ah (fun h=>K h.symm),Nat.add_zero];exact hy s' br
    ·show gK (gK O (p*3+1) _) (p*3+2) _ (q*3)=_
     rw[aT _ _ _ _ aa,aT _ _ _ _ aa];exact u q hq
    ·have hq:q<p+1:=hq
     show gK (gK O (p*3+1) _) (p*3+2) _ (q*3+1)=_/\gK (gK O (p*3+1) _) (p*3+2) _ (q*3+2)=_
     by_cases K:q=p
     ·subst K;exact⟨by rw[aT _ _ _ _ aa,cG],cG _ _ _⟩
     ·rw[aT _ _ _ _ aa,aT _ _ _ _ aa,aT _ _ _ _ aa,aT _ _ _ _ aa];exact C q aa
    ·have hc:3*size<=c:=hc
     show gK (gK O (p*3+1) _) (p*3+2) _ c=_
     rw[aT _ _ _ _ aa,aT _ _ _ _ aa];exact B c hc
    ·show(⟨l.n,gK (gK O (0+p*(2+1)+1) (.int .u8 (aG sh a log p:Nat))) (0+p*(2+1)+2) (.int .u16 (bO sh a log p:Nat)),l.T,(0,0)⟩:bk).obj=_
     rw[show 0+p*(2+1)+1=p*3+1 from aa,show 0+p*(2+1)+2=p*3+2 from aa]
   ·have a3:p=size:=aa
    subst a3;refine go ?_;exact af (cE [10] ([(F,_),(tb,_)]) (junk:=[(V,_)]) ⟨rfl,O,rfl,fun q hq=>by rw[<- hsz] at hq ⊢;exact⟨u q hq,C q hq⟩,fun c hc=>B c (by rw[hsz];exact hc)⟩ (.of_perm (List.perm_append_comm (l₁:=[_]) (l₂:=[_,_]))))
end Go.Proofs.YtogmacnlpclgkaaGreatDoor
