/- Texts 09. -/
import Derived.Test.YtogmacnlpclgkaaGreatDoorX08
set_option linter.all false
namespace Go.Proofs.YtogmacnlpclgkaaGreatDoor
open Go Go.Eng
attribute [local irreducible] RO J av aO
structure Fh (M:ao) (b o len:Nat) (x:Nat->Nat) (B:bk):Prop where
 mem:(b,B)∈M
 fits:o+len<=B.n
 get:∀i,i<len->B.g (o+i) = .int .u8 (x i)
 byte:∀i,x i<256
def v5 (x:Nat->Nat):Nat:=x 0+x 1*256
def eX (x:Nat->Nat):Nat:=x 0+x 1*256+x 2*65536+x 3*16777216
def l7 (x:Nat->Nat):Nat:=eX x+eX (fun i=>x (i+4))*4294967296
theorem my (G m:ao) (b o len cap:Nat) (B:bk) (x:Nat->Nat) (hx:Fh (m++G) b o 4 x B) (h:4<=len) :
  aO Tryz.prog G 77 #[.slice (some ⟨b,o,none⟩) len cap] m (.int .u32 (eX x)):=by
 refine l8 Tryz.func77 fun c h0=>?_
 have b0:=hx.byte 0;have g:=hx.byte 1;have i:=hx.byte 2;have b3:=hx.byte 3
 have hf:=hx.fits
 refine run _ ?_
 refine aK rfl rfl (by simpa using hx.mem) aa (hx.get 0 aa) rfl ?_
 refine aS _ ?_
 refine aK rfl rfl (by simpa using hx.mem) aa (hx.get 1 aa) rfl ?_
 refine aS _ ?_
 refine nX 8 rfl rfl aa aa aa aa rfl (by show _<(2:Int)^32;omega) rfl ?_
 refine aS _ ?_
 refine aK rfl rfl (by simpa using hx.mem) aa (hx.get 2 aa) rfl ?_
 refine aS _ ?_
 refine nX 16 rfl rfl aa aa aa aa rfl (by show _<(2:Int)^32;omega) rfl ?_
 refine aS _ ?_
 refine aK rfl rfl (by simpa using hx.mem) aa (hx.get 3 aa) rfl ?_
 refine aS _ ?_
 refine nX 24 rfl rfl aa aa aa aa rfl (by show _<(2:Int)^32;omega) rfl ?_
 refine aS _ ?_
 refine run _ ?_
 refine af ?_
 exact cL [2] rfl (post:=[]) (junk:=[]) (.refl _) (by simp[mq,eX];rfl)
theorem CX (G m:ao) (b o len cap:Nat) (B:bk) (x:Nat->Nat) (hx:Fh (m++G) b o 2 x B) (h:2<=len) :
  aO Tryz.prog G 82 #[.slice (some ⟨b,o,none⟩) len cap] m (.int .u16 (v5 x)):=by
 refine l8 Tryz.func82 fun c h0=>?_
 have b0:=hx.byte 0;have g:=hx.byte 1
 have hf:=hx.fits
 refine run _ ?_
 refine aK rfl rfl (by simpa using hx.mem) aa (hx.get 0 aa) rfl ?_
 refine aS _ ?_
 refine aK rfl rfl (by simpa using hx.mem) aa (hx.get 1 aa) rfl ?_
 refine aS _ ?_
 refine nX 8 rfl rfl aa aa aa aa rfl (by show _<(2:Int)^16;omega) rfl ?_
 refine aS _ ?_
 refine run _ ?_
 refine af ?_
 exact cL [2] rfl (post:=[]) (junk:=[]) (.refl _) (by simp[mq,v5];rfl)
theorem lC (x:Nat->Nat) (h:∀i,x i<256):eX x<4294967296:=by
 have b0:=h 0;have g:=h 1;have j:=h 2;have b3:=h 3
 unfold eX;omega
theorem CY (G m:ao) (b o len cap:Nat) (B:bk) (x:Nat->Nat) (hx:Fh (m++G) b o 8 x B) (h:8<=len) (l:len<=cap) :
  aO Tryz.prog G 83 #[.slice (some ⟨b,o,none⟩) len cap] m (.int .u64 (l7 x)):=by
 refine l8 Tryz.func83 fun c h0=>?_
 have j:=lC x hx.byte
 have k:=lC (fun i=>x (i+4)) (fun i=>hx.byte _)
 have hf:=hx.fits
 refine run _ ?_
 refine aA (my (m++G) [] b o len cap B x ⟨by simpa using hx.mem,aa,fun i hi=>hx.get i aa,hx.byte⟩ aa) ?_
 refine aS _ ?_
 refine iU rfl rfl rfl rfl rfl aa aa aa rfl ?_
 refine aS _ ?_
 have g:sOff o (4:Int).toNat (0+1) cap=o+4:=by simp[sOff];omega
 refine aA (vs:=[.slice (some ⟨b,sOff o (4:Int).toNat (0+1) cap,none⟩) ((len:Int).toNat-(4:Int).toNat) (cap-(4:Int).toNat)]) (by rw[g];exact my (m++G) [] b (o+4) _ _ B (fun i=>x (i+4)) ⟨by simpa using hx.mem,aa,fun i hi=>by rw[Nat.add_assoc,Nat.add_comm 4 i];exact hx.get (i+4) aa,fun i=>hx.byte _⟩ (by simp;omega)) ?_
 refine aS _ ?_
 refine nX 32 rfl rfl aa aa aa aa rfl (by show _<(2:Int)^64;omega) rfl ?_
 refine aS _ ?_
 refine run _ ?_
 refine af ?_
 exact cL [2] rfl (post:=[]) (junk:=[]) (.refl _) (by simp[mq,l7];rfl)
def mz (dat:Nat->Nat) (p:Nat):Nat->Value:=fun i=>.int .u8 (dat (p+i))
def mA (B:bk) (o n:Nat) (dat:Nat->Nat) (p:Nat):bk:=⟨B.n,cQ B.g o n (mz dat p),B.T,B.fr⟩
structure dn {G:ao} (S:bN G) (dat:Nat->Nat) (N:Nat) where
 σ:Type
 mem:σ->ao
 pos:σ->Nat
 ok:σ->Prop
 t:TypeId
 e:TypeId
 rv:Value
 fid:FuncId
 ptr:bA.tk Tryz.prog t = .ptr e
 mth:uP Tryz.prog t "Read" = some fid
 go:bA.go Tryz.prog fid=true
 le:∀s,ok s->pos s<=N
 rd:∀s b o len cap B,ok s->B.fr=(0,0)->o+len<=B.n->len<=cap->av Tryz.prog G fid #[rv,.slice (some ⟨b,o,none⟩) len cap] ((b,B)::mem s) (fun v m =>
  ∃s' k,ok s'/\k<=len/\pos s'=pos s+k/\(0<len->pos s<N->0<k)/\v = .tuple #[.int .i64 k,if pos s<N then .nilIface else S.eofV]/\m=(b,mA B o k dat (pos s))::mem s')
variable {G:ao} {S:bN G} {dat:Nat->Nat} {N:Nat}
theorem tV (g:Nat->Value) (o k n:Nat) (dat:Nat->Nat) (p:Nat):cQ (cQ g o k (mz dat p)) (o+k) n (mz dat (p+k))=cQ g o (k+n) (mz dat p):=by
 funext i
 by_cases j:o<=i/\i<o+k
 ·rw[aP _ _ _ _ _ aa,bH _ _ _ _ _ aa aa,bH _ _ _ _ _ aa aa]
 ·by_cases h:o+k<=i/\i<o+k+n
  ·rw[bH _ _ _ _ _ aa aa,bH _ _ _ _ _ aa aa];simp only[mz];congr 3;omega
  ·rw[aP _ _ _ _ _ aa,aP _ _ _ _ _ aa,aP _ _ _ _ _ aa]
def kI (S:bN G) (len k:Nat):Value:=.tuple #[.int .i64 k,if len<=k then .nilIface else if k=0 then S.eofV else S.ueofV]
theorem eE {S:bN G} {len k:Nat} (h:len<=k):kI S len k = .tuple #[.int .i64 k,.nilIface]:=by unfold kI;rw[ai h]
theorem eD {S:bN G} {len k:Nat} (h:¬len<=k) (h0:k=0):kI S len k = .tuple #[.int .i64 k,.iface 183 (.pointer (some ⟨S.eb,S.eo,none⟩))]:=by unfold kI;rw[ah h,ai h0];rfl
theorem eF {S:bN G} {len k:Nat} (h:¬len<=k) (h0:¬k=0):kI S len k = .tuple #[.int .i64 k,.iface 183 (.pointer (some ⟨S.ub,S.uo,none⟩))]:=by unfold kI;rw[ah h,ah h0];rfl
theorem _root_.Go.Eng.aR.appNil (m:ao):aR (m++[]) m:=by simpa using aR.refl m
theorem Be (src:dn S dat N) (g:src.σ) (b o len cap:Nat) (B:bk) (dE:src.ok g) (C:B.fr=(0,0)) (ho:o+len<=B.n) (hc:len<=cap) (hl:len<2^62) :
  av Tryz.prog G 91 #[.iface src.t src.rv,.slice (some ⟨b,o,none⟩) len cap,.int .i64 len] ((b,B)::src.mem g) (fun v m =>
   ∃j k,src.ok j/\k=min len (N-src.pos g)/\src.pos j=src.pos g+k/\m=(b,mA B o k dat (src.pos g))::src.mem j /\
    v=kI S len k):=by
 refine bE Tryz.func91 fun c h0 hex=>?_
 refine run _ ?_
 refine ac rfl (fun l=>absurd l aa) (fun _=>?_)
 refine run _ ?_
 refine mP (σ:=src.σ×Nat×Bool) (fun s=>[(0,.iface src.t src.rv),(1,.slice (some ⟨b,o,none⟩) len cap),(2,.int .i64 len),(6,.int .i64 s.2.1),(7,if s.2.2 then S.eofV else .nilIface)])
  (fun s=>(b,mA B o s.2.1 dat (src.pos g))::src.mem s.1)
  (fun s=>src.ok s.1/\s.2.1<=len/\src.pos s.1=src.pos g+s.2.1/\(s.2.2=true->src.pos s.1=N/\s.2.1<len)) (fun s=>2*(len-s.2.1)+(if s.2.2 then 0 else 1)) (g,0,false)
  cF (aR.cons (by unfold mA;rw[eY]) (.refl _)) ⟨dE,Nat.zero_le _,rfl,fun h=>by cases h⟩ ?_
 rintro⟨s,k,Y⟩ f ⟨q,i2,p,M⟩
 simp only at q i2 p M
 have V:=src.le s q
 refine run _ ?_
 refine aJ 17 rfl (fun l=>?_) (fun z=>?_)
 ·cases Y with
  | true =>
   refine aS _ ?_
   refine run _ ?_
   have h4:=M rfl
   refine ac rfl (fun hg=>absurd hg (by simp;omega)) (fun _=>?_)
   refine run _ ?_
   refine aJ 40 rfl (fun h0=>?_) (fun h0=>?_)
   ·refine aS _ ?_
    refine aK rfl rfl (by simp[S.e0]) S.e0n S.e0g rfl ?_
    refine aS _ ?_
    obtain⟨i,hi,y⟩:=lz;refine gn (r:=true) (B:=S.E1) (B':=S.E1) rfl rfl rfl rfl hi y rfl (.inl ⟨rfl,by simp⟩) rfl ?_
    refine aS _ ?_
    refine run _ ?_
    refine aK rfl rfl (by simp[S.u0]) S.u0n S.u0g rfl ?_
    refine aS _ ?_
    refine run _ ?_
    refine af ?_;have u:0<k:=by simpa using h0
    exact ag [6,7] ⟨s,k,q,aa,p,rfl,(eF aa aa).symm⟩
   ·refine aS _ ?_
    refine run _ ?_
    refine af ?_;have u:k=0:=by simp at h0;omega
    subst u;exact ag [6,7] ⟨s,0,q,aa,p,rfl,(eD aa rfl).symm⟩
  | false =>
   have K:k<len:=by simpa using l
   refine aS _ ?_
   refine run _ ?_
   refine GS k len rfl rfl rfl rfl rfl aa aa aa rfl ?_
   refine aS _ ?_
   refine oT src.mth rfl src.ptr rfl ?_
   refine aS _ ?_
   refine mu src.mth src.ptr src.go (src.rd s b (o+k) (len-k) (cap-k) (mA B o k dat (src.pos g)) q C (by show _<=B.n;omega) aa) ?_
   rintro v m ⟨j,k',F,j2,j3,W,rfl,rfl⟩;have O:=src.le j F
   by_cases I:src.pos s<N
   ·rw[ai I];refine aS _ ?_
    refine run _ ?_
    have U:=W aa I
    refine⟨(j,k+k',false),?_,⟨F,?_,?_,fun h=>by cases h⟩,cF,?_⟩
    ·simp only;omega
    ·simp only;omega
    ·simp only;omega
    ·refine aR.cons ?_ (aR.appNil _)
     simp only[mA,p,tV]
   ·rw[ah I];refine aS _ ?_
    refine run _ ?_
    have J:k'=0:=aa
    refine⟨(j,k+k',true),?_,⟨F,?_,?_,fun _=>⟨?_,?_⟩⟩,cF,?_⟩
    ·simp only[J];simp
    ·simp only;omega
    ·simp only;omega
    ·simp only;omega
    ·simp only;omega
    ·refine aR.cons ?_ (aR.appNil _)
     simp only[mA,p,tV]
 ·refine aS _ ?_
  refine run _ ?_
  refine ac rfl (fun hg=>?_) (fun hl=>absurd z (by simp at hl ⊢;omega))
  have H:k=len:=by simp at hg;omega
  subst H;refine run _ ?_
  exact af (ag [6,7] ⟨s,k,q,aa,p,rfl,(eE (aZ _)).symm⟩)
theorem CZ (src:dn S dat N) (i:src.σ) (b o len cap:Nat) (B:bk) (dE:src.ok i) (l:B.fr=(0,0)) (u:o+len<=B.n) (y:len<=cap) (hl:len<2^62) :
  av Tryz.prog G 75 #[.iface src.t src.rv,.slice (some ⟨b,o,none⟩) len cap] ((b,B)::src.mem i) (fun v m =>
   ∃g k,src.ok g/\k=min len (N-src.pos i)/\src.pos g=src.pos i+k/\m=(b,mA B o k dat (src.pos i))::src.mem g /\
    v=kI S len k):=by
 refine bE Tryz.func75 fun c h0 hex=>?_
 refine run _ ?_
 refine ae (Be src i b o len cap B dE l u y hl) ?_
 rintro v m ⟨g,k,r,p,q,rfl,rfl⟩
 by_cases h:len<=k
 ·rw[eE h];refine aS _ ?_
  refine run _ ?_
  exact af (ag [4,5] ⟨g,k,r,p,q,rfl,(eE h).symm⟩)
 ·by_cases j:k=0
  ·rw[eD h j];refine aS _ ?_
   refine run _ ?_
   exact af (ag [4,5] ⟨g,k,r,p,q,rfl,(eD h j).symm⟩)
  ·rw[eF h j];refine aS _ ?_
   refine run _ ?_
   exact af (ag [4,5] ⟨g,k,r,p,q,rfl,(eF h j).symm⟩)
end Go.Proofs.YtogmacnlpclgkaaGreatDoor
namespace Go.Proofs.YtogmacnlpclgkaaGreatDoor
open Go Go.Eng
attribute [local irreducible] RO J av aO
structure RS where
 rv:Value
 saw:Bool
 sum:Bool
 one:Bool
 unk:Bool
 rem:Nat
 buf:Value
 off:Nat
 r1:Nat
 r2:Nat
 r3:Nat
 ht:Value
 hb:Nat
 wsz:Nat
 wd:Value
 wo:Nat
 cb:Value
 lit:Value
 st0:Value
 st1:Value
 st2:Value
 sb0:Nat
 sb1:Nat
 sb2:Nat
 tb0:Value
 tb1:Value
 tb2:Value
 scr:Nat->Nat
 fs:Value
 xl:Nat
 xv:Nat->Nat
 xb:Nat->Nat
 xc:Nat
def wQ (x:Int) (s:RS):List Value :=
 [s.rv,.bool s.saw,.bool s.sum,.bool s.one,.bool s.unk,.int .u64 s.rem,.int .i64 x,s.buf,.int .i64 s.off,.int .u32 s.r1,.int .u32 s.r2,.int .u32 s.r3,s.ht,.int .i64 s.hb,.int .i64 s.wsz,s.wd,.int .i64 s.wo,s.cb,s.lit,
  s.st0,s.st1,s.st2,.int .u8 s.sb0,.int .u8 s.sb1,.int .u8 s.sb2,s.tb0,s.tb1,s.tb2,
  .int .u8 (s.scr 0),.int .u8 (s.scr 1),.int .u8 (s.scr 2),.int .u8 (s.scr 3),.int .u8 (s.scr 4),.int .u8 (s.scr 5),.int .u8 (s.scr 6),.int .u8 (s.scr 7),.int .u8 (s.scr 8),.int .u8 (s.scr 9),.int .u8 (s.scr 10),.int .u8 (s.scr 11),.int .u8 (s.scr 12),.int .u8 (s.scr 13),.int .u8 (s.scr 14),.int .u8 (s.scr 15),
  s.fs,.int .u64 s.xl,.int .u64 (s.xv 0),.int .u64 (s.xv 1),.int .u64 (s.xv 2),.int .u64 (s.xv 3),
  .int .u8 (s.xb 0),.int .u8 (s.xb 1),.int .u8 (s.xb 2),.int .u8 (s.xb 3),.int .u8 (s.xb 4),.int .u8 (s.xb 5),.int .u8 (s.xb 6),.int .u8 (s.xb 7),.int .u8 (s.xb 8),.int .u8 (s.xb 9),.int .u8 (s.xb 10),.int .u8 (s.xb 11),.int .u8 (s.xb 12),.int .u8 (s.xb 13),.int .u8 (s.xb 14),.int .u8 (s.xb 15),
  .int .u8 (s.xb 16),.int .u8 (s.xb 17),.int .u8 (s.xb 18),.int .u8 (s.xb 19),.int .u8 (s.xb 20),.int .u8 (s.xb 21),.int .u8 (s.xb 22),.int .u8 (s.xb 23),.int .u8 (s.xb 24),.int .u8 (s.xb 25),.int .u8 (s.xb 26),.int .u8 (s.xb 27),.int .u8 (s.xb 28),.int .u8 (s.xb 29),.int .u8 (s.xb 30),.int .u8 (s.xb 31),
  .int .i64 s.xc]
def az (x:Int) (s:RS):bk:=⟨83,ct (wQ x s),88,(0,0)⟩
abbrev RS.wRv (s:RS) (v:Value):RS:={ s with rv:=v }
abbrev RS.wBuf (s:RS) (v:Value):RS:={ s with buf:=v }
abbrev RS.wOff (s:RS) (o:Nat):RS:={ s with off:=o }
abbrev RS.wRem (s:RS) (n:Nat):RS:={ s with rem:=n }
abbrev RS.wSaw (s:RS) (b:Bool):RS:={ s with saw:=b }
abbrev RS.wWin (s:RS) (z:Nat) (v:Value) (o:Nat):RS:={ s with wsz:=z,wd:=v,wo:=o }
abbrev RS.wRep (s:RS) (a b c:Nat):RS:={ s with r1:=a,r2:=b,r3:=c }
abbrev RS.wHuf (s:RS) (v:Value) (n:Nat):RS:={ s with ht:=v,hb:=n }
abbrev RS.wCb (s:RS) (v:Value):RS:={ s with cb:=v }
abbrev RS.wLit (s:RS) (v:Value):RS:={ s with lit:=v }
abbrev RS.wFs (s:RS) (v:Value):RS:={ s with fs:=v }
abbrev RS.wScr (s:RS) (f:Nat->Nat):RS:={ s with scr:=f }
abbrev RS.wChk (s:RS) (l:Nat) (v b:Nat->Nat) (n:Nat):RS:={ s with xl:=l,xv:=v,xb:=b,xc:=n }
abbrev RS.wSeq (s:RS) (a0 a1 h:Value) (b0 g i:Nat) (c0 c1 c2:Value):RS:={ s with st0:=a0,st1:=a1,st2:=h,sb0:=b0,sb1:=g,sb2:=i,tb0:=c0,tb1:=c1,tb2:=c2 }
theorem RS.wBuf_self (s:RS):s.wBuf s.buf=s:=rfl
theorem RS.wWin_self (s:RS):s.wWin s.wsz s.wd s.wo=s:=rfl
theorem RS.wRv_self (s:RS):s.wRv s.rv=s:=rfl
def RS.xreset (s:RS):RS:={ s with xl:=0,xv:=fun i=>[6983438078262162902,14029467366897019727,0,7046029288634856825].getD i 0,xb:=fun _=>0,xc:=0 }
theorem C0 (G:ao) (g:Nat) (x:Int) (s:RS):av Tryz.prog G 81 #[.pointer (some ⟨g,45,none⟩)] [(g,az x s)] (fun v m=>m=[(g,az x s.xreset)]):=by
 refine bE Tryz.func81 fun c h0 hex=>?_
 refine run _ ?_
 refine dq (op:=.add) (v:=.int .u64 6983438078262162902) rfl rfl rfl rfl ?_
 refine aS _ ?_
 refine run _ ?_
 refine Cz rfl rfl ?_
 refine aS _ ?_
 refine run _ ?_
 refine hG 32 rfl rfl rfl rfl aa rfl ?_
 refine aS _ ?_
 refine AY (z:=.int .u8 0) rfl rfl rfl rfl z5 rfl .here rfl (by show _<=83;decide) hex rfl ?_
 refine aS _ ?_
 refine run _ ?_
 exact bY [] (post:=[(g,az x s.xreset)]) (junk:=[]) rfl rfl (.cons dT .nil)
theorem C1 (G:ao) (g:Nat) (x:Int) (s:RS) (size len:Nat) (cl:Nat->Value) (t:ao) (u:dH 1 s.wd len cl t) (hs:size<=2^30) :
  av Tryz.prog G 84 #[.pointer (some ⟨g,14,none⟩),.int .i64 size] ((g,az x s)::t) (fun _ m=>∃h j,dH 1 h 0 (fun _=>undef) j/\m=(g,az x { s with wsz:=size,wd:=h,wo:=0 })::j):=by
 refine bE Tryz.func84 fun c h0 hex=>?_
 rcases u with⟨q,rfl,rfl⟩|⟨b,o,cap,B,q,rfl,hf,y,C,F⟩
 ·refine run _ ?_
  refine fY q rfl rfl rfl rfl rfl ?_
  refine aS _ ?_
  refine run _ ?_
  refine ac rfl (fun l=>?_) (fun k=>?_)
  ·refine run _ ?_
   refine gm (len:=0) (cap:=size) rfl rfl rfl rfl z5 (by decide) aa aa hex rfl fun b' p=>?_
   refine aS _ ?_
   refine run _ ?_
   exact bY [] (post:=[(g,az x { s with wsz:=size,wd:=.slice (bi b') 0 size,wo:=0 }),(b',_)]) (junk:=[])
    ⟨_,[(b',_)],.inr ⟨b',0,size,_,rfl,rfl,rfl,by simp,aa,fun i hi=>aa⟩,rfl⟩ rfl
    ((aR.of_perm (List.Perm.swap _ _ _)).trans ci)
  ·have r:size=0:=aa
   subst r;refine run _ ?_
   exact bY [] (post:=[(g,az x { s with wsz:=0,wd:=.slice none 0 0,wo:=0 })]) (junk:=[])
    ⟨_,[],.inl ⟨rfl,rfl,rfl⟩,rfl⟩ rfl ci
 ·refine run _ ?_
  refine rz 0 q rfl rfl rfl aa rfl ?_
  refine aS _ ?_
  refine run _ ?_
  refine ac rfl (fun l=>?_) (fun k=>?_)
  ·refine run _ ?_
   refine gm (len:=0) (cap:=size) rfl rfl rfl rfl z5 (by decide) aa aa hex rfl fun b' p=>?_
   refine aS _ ?_
   refine run _ ?_
   exact bY [] (post:=[(g,az x { s with wsz:=size,wd:=.slice (bi b') 0 size,wo:=0 }),(b',_)]) (junk:=[(b,B)])
    ⟨_,[(b',_)],.inr ⟨b',0,size,_,rfl,rfl,rfl,by simp,aa,fun i hi=>aa⟩,rfl⟩ rfl
    ((aR.of_perm (List.Perm.swap _ _ _)).trans ci)
  ·refine run _ ?_
   exact bY [] (post:=[(g,az x { s with wsz:=size,wd:=.slice (some ⟨b,o,none⟩) 0 cap,wo:=0 }),(b,B)]) (junk:=[])
    ⟨_,[(b,B)],.inr ⟨b,o,cap,B,rfl,rfl,hf,y,aa,fun i hi=>aa⟩,rfl⟩ rfl
    ci
theorem JV:dv Tryz.prog 186=some (List.replicate 512 (.int .u8 0)):=by kernel_rfl
theorem Ja:∃zs,dv Tryz.prog 186=some zs/\zs.length=512:=⟨_,JV,List.length_replicate⟩
theorem Bf {G:ao} {S:bN G} {dat:Nat->Nat} {N:Nat} (src:dn S dat N) (l:src.σ) (dE:src.ok l) (n:Nat) (hn:n<2^40) :
  av Tryz.prog G 93 #[.iface src.t src.rv,.int .i64 n] (src.mem l) (fun v m =>
   ∃i k,src.ok i/\k=min n (N-src.pos l)/\src.pos i=src.pos l+k/\m=src.mem i /\
    v = .tuple #[.int .i64 k,if n<=k then .nilIface else S.eofV]):=by
 refine bE Tryz.func93 fun c h0 hex=>?_
 refine run _ ?_
 obtain⟨zs,Y,J⟩:=Ja
 refine aC Y rfl hex fun F ab=>?_
 refine aS _ ?_
 refine run _ ?_
 refine mP (σ:=src.σ×Nat×bk) (fun s=>[(0,.iface src.t src.rv),(1,.int .i64 n),(6,bf F),(7,.int .i64 s.2.1)])
  (fun s=>(F,s.2.2)::src.mem s.1)
  (fun s=>src.ok s.1/\s.2.1<=n/\src.pos s.1=src.pos l+s.2.1/\s.2.2.n=512/\s.2.2.fr=(0,0)) (fun s=>n-s.2.1) (l,0,_)
  cF (.refl _) ⟨dE,Nat.zero_le _,rfl,J,rfl⟩ ?_
 rintro⟨s,k,B⟩ f ⟨z,i2,i3,M,H⟩
 simp only at z i2 i3 M H
 have U:=src.le s z
 refine run _ ?_
 refine ac rfl (fun p=>?_) (fun C=>?_)
 ·have p:k<n:=by simpa using p
  refine run _ ?_
  refine ls rfl rfl rfl ?_
  obtain⟨q,W,I,r,ad⟩:∃q:Nat,(if(512:Int)<(n:Int)-(k:Int) then(512:Int) else(n:Int)-(k:Int))=(q:Int)/\0<q/\q<=512/\q<=n-k:=by
   by_cases h:(512:Int)<(n:Int)-(k:Int)
   ·exact⟨512,by rw[ai h];rfl,aa,aa,aa⟩
   ·exact⟨n-k,by rw[ah h];omega,aa,aa,aa⟩
  simp only[W]
  refine aS _ ?_
  refine hG q rfl rfl rfl rfl r rfl ?_
  refine aS _ ?_
  refine oT src.mth rfl src.ptr rfl ?_
  refine aS _ ?_
  refine mu src.mth src.ptr src.go (src.rd s F 0 q 512 B z H aa r) ?_
  rintro v m ⟨i,k',y,j2,j3,V,rfl,rfl⟩;have O:=src.le i y
  by_cases K:src.pos s<N
  ·have u:=V I K
   rw[ai K];refine aS _ ?_
   refine run _ ?_
   refine ac rfl (fun j=>?_) (fun hgo=>?_)
   ·refine run _ ?_
    refine af ?_;have g:n<=k+k':=aa
    exact ag [4,5] ⟨i,k+k',y,aa,aa,rfl,by rw[ai g];rfl⟩
   ·refine run _ ?_
    exact⟨(i,k+k',mA B 0 k' dat (src.pos s)),by simp only;omega,⟨y,by simp only;omega,by simp only;omega,M,H⟩,cF,aR.appNil _⟩
  ·have u:k'=0:=aa
   subst u;rw[ah K];refine aS _ ?_
   refine run _ ?_
   refine ac rfl (fun j=>absurd j aa) (fun hgo=>?_)
   refine run _ ?_
   refine af ?_;have g:¬n<=k:=aa
   exact ag [4,5] ⟨i,k,y,aa,aa,rfl,by rw[ah g];rfl⟩
 ·have g:n<=k:=by simp at C;omega
  refine run _ ?_
  exact af (ag [4,5] ⟨s,k,z,aa,aa,rfl,by rw[ai g];rfl⟩)
section
attribute [local semireducible] av
theorem _root_.Go.Eng.av.eqv {P:Program} {G:ao} {fn:FuncId} {args:Array Value} {m:ao} {R R':Value->ao->Prop} (t:av P G fn args m R) (h:∀v m',R v m'->∃g,aR m' g/\R' v g):av P G fn args m R' :=
 fun c k w l o=>(t c k w l o).mono fun _ _ ⟨v,m',h'',e,hc',o',r⟩=>by
  obtain⟨g,i,j⟩:=h _ _ r;exact⟨v,g,h'',e,hc',o'.eqv i,j⟩
end
def ov (scr:Nat->Nat) (n:Nat) (dat:Nat->Nat) (p:Nat):Nat->Nat:=fun i=>if i<n then dat (p+i) else scr i
theorem sg (x:Int) (s:RS):∀j,j<16->ct (wQ x s) (28+j) = .int .u8 (s.scr j)
 | 0,_=>rfl|1,_=>rfl|2,_=>rfl|3,_=>rfl|4,_=>rfl|5,_=>rfl|6,_=>rfl|7,_=>rfl
 | 8,_=>rfl|9,_=>rfl|10,_=>rfl|11,_=>rfl|12,_=>rfl|13,_=>rfl|14,_=>rfl|15,_=>rfl
 | j+16,h=>absurd h aa
theorem Jb (x:Int) (s:RS) (g:Nat->Nat):∀i,i<28->ct (wQ x s) i=ct (wQ x { s with scr:=g }) i
 | 0,_=>rfl|1,_=>rfl|2,_=>rfl|3,_=>rfl|4,_=>rfl|5,_=>rfl|6,_=>rfl|7,_=>rfl
 | 8,_=>rfl|9,_=>rfl|10,_=>rfl|11,_=>rfl|12,_=>rfl|13,_=>rfl|14,_=>rfl|15,_=>rfl
 | 16,_=>rfl|17,_=>rfl|18,_=>rfl|19,_=>rfl|20,_=>rfl|21,_=>rfl|22,_=>rfl|23,_=>rfl
 | 24,_=>rfl|25,_=>rfl|26,_=>rfl|27,_=>rfl
 | j+28,h=>absurd h aa
theorem Jc (x:Int) (s:RS) (g:Nat->Nat) (j:Nat):ct (wQ x s) (j+44)=ct (wQ x { s with scr:=g }) (j+44):=rfl
theorem Hs (x:Int) (s:RS) (n:Nat) (l:n<=16) (dat:Nat->Nat) (p:Nat):(mA (az x s) 28 n dat p).obj=(az x { s with scr:=ov s.scr n dat p }).obj:=by
 refine c9 fun i _=>?_
 show cQ (ct (wQ x s)) 28 n (mz dat p) i=ct (wQ x { s with scr:=ov s.scr n dat p }) i
 by_cases h:i<28
 ·rw[aP _ _ _ _ _ aa];exact Jb x s _ i h
 ·by_cases k:i<44
  ·obtain⟨j,rfl⟩:∃j,i=28+j:=⟨i-28,aa⟩
   rw[sg x { s with scr:=ov s.scr n dat p } j aa];by_cases g:j<n
   ·rw[bH _ _ _ _ _ aa aa];simp only[mz,ov,ai g];rw[show 28+j-28=j from aa]
   ·rw[aP _ _ _ _ _ aa,sg x s j aa];simp only[ov,ah g]
  ·obtain⟨j,rfl⟩:∃j,i=j+44:=⟨i-44,aa⟩
   rw[aP _ _ _ _ _ aa];exact Jc x s _ j
variable {G:ao} {S:bN G} {dat:Nat->Nat} {N:Nat}
theorem kg (src:dn S dat N) (g:src.σ) (i:Nat) (x:Int) (s:RS) (n:Nat) (dE:src.ok g) (p:n<=16) :
  av Tryz.prog G 75 #[.iface src.t src.rv,.slice (some ⟨i,28,none⟩) n 16] ((i,az x s)::src.mem g) (fun v m =>
   ∃h k,src.ok h/\k=min n (N-src.pos g)/\src.pos h=src.pos g+k/\m=(i,az x { s with scr:=ov s.scr k dat (src.pos g) })::src.mem h/\v=kI S n k):=by
 refine(CZ src g i 28 n 16 (az x s) dE rfl (by show _<=83;omega) p aa).eqv ?_
 rintro v m ⟨h,k,r,j,l,rfl,q⟩
 exact⟨_,aR.cons (Hs x s k aa dat _) (.refl _),h,k,r,j,l,rfl,q⟩
theorem iO (S:bN G) (g:Nat) (x:Int) (s:RS) (off:Int):av Tryz.prog G 80 #[bf g,.int .i64 off,.iface 183 (.pointer (some ⟨S.eb,S.eo,none⟩))] [(g,az x s)] (fun v m=>dM S .z v/\m=[(g,az x s)]) :=
 oW G S g (az x s) x off .eof S.eofV (.inl rfl) rfl (by show 6<83;decide) rfl
theorem lD (S:bN G) (g:Nat) (x:Int) (s:RS) (off:Int):av Tryz.prog G 80 #[bf g,.int .i64 off,.iface 183 (.pointer (some ⟨S.ub,S.uo,none⟩))] [(g,az x s)] (fun v m=>dM S .z v/\m=[(g,az x s)]) :=
 oW G S g (az x s) x off .ueof S.ueofV (.inr rfl) rfl (by show 6<83;decide) rfl
theorem c_ (S:bN G) (g:Nat) (x:Int) (s:RS) (off:Int) (str:ByteArray):av Tryz.prog G 79 #[bf g,.int .i64 off,.string str] [(g,az x s)] (fun v m=>dM S .z v/\m=[(g,az x s)]) :=
 wN G S g (az x s) x off str (by show 6<83;decide) rfl
theorem eZ (S:bN G) (g:Nat) (x:Int) (s:RS) (off:Int):av Tryz.prog G 92 #[bf g,.int .i64 off] [(g,az x s)] (fun v m=>dM S .z v/\m=[(g,az x s)]) :=
 se G S g (az x s) x off (by show 6<83;decide) rfl
theorem zJ (S:bN G) (g:Nat) (x:Int) (s:RS) (off:Int):av Tryz.prog G 76 #[bf g,.int .i64 off,.iface 183 (.pointer (some ⟨S.ub,S.uo,none⟩))] [(g,az x s)] (fun v m=>dM S .z v/\m=[(g,az x s)]) :=
 gM G S g (az x s) x off (by show 6<83;decide) rfl S.ub S.uo [] S.U1 (by simp[S.u1]) S.u1f (fun _=>S.ne)
theorem jF {m:ao} (g:Nat) (x:Int) (s:RS) (j:(g,az x s)∈m) (o n:Nat) (h:o+n<=16) (hb:∀i,s.scr i<256):Fh m g (28+o) n (fun i=>s.scr (o+i)) (az x s) :=
 ⟨j,by show _<=83;omega,fun i hi=>by rw[Nat.add_assoc];exact sg x s (o+i) aa,fun i=>hb _⟩
theorem rD (x y:Int) (s:RS):((az x s).st 6 (.int .i64 y)).obj=(az y s).obj:=aW rfl rfl rfl rfl
theorem GZ:(Tryz.prog.info? 170).bind (·.zero)=some .nilIface:=by kernel_rfl
def lU (src:dn S dat N):Prop:=∀(g:src.σ) (j:Nat) (x:Int) (s:RS),src.ok g->s.rv = .iface src.t src.rv->(∀i,s.scr i<256) ->
  av Tryz.prog G 78 #[bf j] ((j,az x s)::src.mem g) (fun v m =>
   ∃x' h k,src.ok h/\k=min 4 (N-src.pos g)/\m=(j,az x' { s with scr:=ov s.scr k dat (src.pos g) })::src.mem h /\
    ((4+eX (fun i=>dat (src.pos g+i))<=N-src.pos g/\v = .nilIface/\src.pos h=src.pos g+4+eX (fun i=>dat (src.pos g+i))) \/
     (¬4+eX (fun i=>dat (src.pos g+i))<=N-src.pos g/\dM S .z v/\src.pos h=N)))
theorem Ht (src:dn S dat N) (hd:∀i,dat i<256) (J:E5 Tryz.prog 170 src.t=some false):lU src:=by
 intro l g x s dE j h
 refine bE Tryz.func78 fun c h0 hex=>?_
 have U:=src.le l dE
 obtain⟨s,rfl⟩:∃W,s={ W with rv:=.iface src.t src.rv }:=⟨s,by cases s;simp only at j;rw[j]⟩
 clear j
 have F:∀i,s.scr i<256:=h
 clear h
 refine run _ ?_
 refine hG 4 rfl rfl rfl rfl aa rfl ?_
 refine aS _ ?_
 refine ae (kg src l g x { s with rv:=.iface src.t src.rv } 4 dE aa) ?_
 rintro v m ⟨r,k,B,p,h3,rfl,rfl⟩
 by_cases C:4<=k
 ·rw[eE C];refine aS _ ?_
  refine run _ ?_
  obtain rfl:k=4:=aa;have y:∀i,ov s.scr 4 dat (src.pos l) i<256:=fun i=>by unfold ov;split;exact hd _;exact F _
  refine hG 4 rfl rfl rfl rfl aa rfl ?_
  refine aS _ ?_
  refine aA (my G _ g 28 4 16 _ _ (jF g x _ (by simp;exact .inl rfl) 0 4 aa y) aa) ?_
  have K:eX (fun i=>ov s.scr 4 dat (src.pos l) (0+i))=eX (fun i=>dat (src.pos l+i)):=by simp[eX,ov]
  simp only[K]
  have Y:=lC (fun i=>dat (src.pos l+i)) (fun i=>hd _)
  generalize hz:eX (fun i=>dat (src.pos l+i))=z at *
  refine aS _ ?_
  refine run _ ?_
  refine ac rfl (fun I=>?_) (fun I=>?_)
  ·refine run _ ?_
   refine dq (op:=.add) rfl rfl rfl rfl ?_
   refine aS _ ?_
   refine run _ ?_
   refine af ?_;exact cL [2] rfl (post:=(g,az _ _)::src.mem r) (junk:=[]) (.cons (rD _ _ _) (by simpa using aR.refl _))
    ⟨_,r,4,B,p,rfl,.inl ⟨aa,rfl,aa⟩⟩
  ·refine run _ ?_
   refine CF rfl J GZ rfl ?_
   refine aS _ ?_
   refine run _ ?_
   refine ar (Bf src r B z aa) ?_
   rintro v m ⟨H,V,O,g2,g3,rfl,rfl⟩;by_cases u:z<=V
   ·rw[ai u];refine aS _ ?_
    refine run _ ?_
    refine dq (op:=.add) rfl rfl rfl rfl ?_
    refine aS _ ?_
    refine run _ ?_
    refine af ?_;exact cL [2] rfl (post:=(g,az _ _)::src.mem H) (junk:=[]) (.cons (rD _ _ _) (by simpa using aR.refl _))
     ⟨_,H,4,O,p,rfl,.inl ⟨aa,rfl,aa⟩⟩
   ·rw[ah u];refine aS _ ?_
    refine run _ ?_
    refine ae (iO S g x _ _) ?_
    rintro v m ⟨q,rfl⟩;obtain⟨b',rfl⟩:=q;refine aS _ ?_
    refine run _ ?_
    exact af (ag [2] ⟨x,H,4,O,p,rfl,.inr ⟨aa,⟨b',rfl⟩,aa⟩⟩)
 ·by_cases M:k=0
  ·rw[eD C M];refine aS _ ?_
   refine run _ ?_
   refine ae (iO S g x _ 0) ?_
   rintro v m ⟨q,rfl⟩;obtain⟨b',rfl⟩:=q;refine aS _ ?_
   refine run _ ?_
   exact af (ag [2] ⟨x,r,k,B,p,rfl,.inr ⟨aa,⟨b',rfl⟩,aa⟩⟩)
  ·rw[eF C M];refine aS _ ?_
   refine run _ ?_
   refine ae (lD S g x _ 0) ?_
   rintro v m ⟨q,rfl⟩;obtain⟨b',rfl⟩:=q;refine aS _ ?_
   refine run _ ?_
   exact af (ag [2] ⟨x,r,k,B,p,rfl,.inr ⟨aa,⟨b',rfl⟩,aa⟩⟩)
end Go.Proofs.YtogmacnlpclgkaaGreatDoor
namespace Go.Proofs.YtogmacnlpclgkaaGreatDoor
open Go Go.Eng
attribute [local irreducible] RO J av aO
variable {G:ao}
def tD (h:Option Addr) (N g p:Nat):bk:=aj [.slice h N g,.int .i64 p,.int .i64 (-1)] 90
theorem Fi (S:bN G) (dat:Nat->Nat) (I:Option Addr) (N q H p:Nat) (z:aU G I N q dat) (hN:N<2^60) (J:p<=N) (b o len cap:Nat) (B:bk) (C:B.fr=(0,0)) (W:o+len<=B.n) (O:len<=cap) :
  av Tryz.prog G 149 #[bf H,.slice (some ⟨b,o,none⟩) len cap] ((b,B)::[(H,tD I N q p)]) (fun v m =>
   ∃k,k=min len (N-p)/\v = .tuple #[.int .i64 k,if p<N then .nilIface else S.eofV]/\m=(b,mA B o k dat p)::[(H,tD I N q (p+k))]):=by
 refine bE Tryz.func149 fun c h0 hex=>?_
 have y:=z.le
 refine go ?_
 refine ac rfl (fun K=>?_) (fun M=>?_)
 ·refine go ?_;refine aK rfl rfl (by simp[S.e0]) S.e0n S.e0g rfl ?_
  refine go ?_;refine af ?_;exact ag [4,5] ⟨0,aa,by rw[ah aa];rfl,rfl⟩ rfl (.cons (by unfold mA;rw[eY]) (.refl _))
 ·have r:p<N:=aa
  refine go ?_;refine cT p N z rfl rfl rfl rfl rfl rfl rfl J y rfl ?_
  obtain⟨src,u,t⟩:=(z.sub (l:=p) (h:=N) J (aZ _)).src
  refine go ?_;refine jq (s:=0) (k:=N-p) (src:=src) rfl rfl rfl rfl (u.imp (fun⟨b,o,q,B,h1,h2,h3,h4⟩=>⟨b,o,q,B,h1,List.mem_append.2 (.inr h2),h3,h4⟩) id) (fun j Y=>by rw[t j aa];rfl) .here C aa hex rfl ?_
  have U:min (N-p) len<=N-p:=Nat.min_le_left _ _
  have V:min (N-p) len<=len:=Nat.min_le_right _ _
  have F:min (N-p) len=min len (N-p):=Nat.min_comm _ _
  generalize min (N-p) len=k at *;refine go ?_;refine af ?_;refine ag [4,5] (junk:=[]) ⟨k,F,by rw[ai r];rfl,rfl⟩ rfl ?_
  refine .cons (c9 fun i _=>?_) (.cons dT .nil)
  show cQ B.g o (k*(0+1)) src i=cQ B.g o k (mz dat p) i
  rw[show k*(0+1)=k from aa];by_cases hi:o<=i/\i<o+k
  ·rw[bH _ _ _ _ _ hi.1 hi.2,bH _ _ _ _ _ hi.1 hi.2,t _ aa];rfl
  ·rw[aP _ _ _ _ _ aa,aP _ _ _ _ _ aa]
theorem JW:uP Tryz.prog 58 "Read" = some 149:=by kernel_rfl
theorem C2:uP Tryz.prog 58 "Seek" = some 150:=by kernel_rfl
def fH (S:bN G) (dat:Nat->Nat) (j:Option Addr) (N l i:Nat) (y:aU G j N l dat) (z:N<2^60):dn S dat N where
 σ:=Nat
 mem p:=[(i,tD j N l p)]
 pos p:=p
 ok p:=p<=N
 t:=58
 e:=90
 rv:=bf i
 fid:=149
 ptr:=rfl
 mth:=JW
 go:=rfl
 le _ h:=h
 rd:=by
  intro p b o len cap B dE g q A;refine(Fi S dat j N l i p y z dE b o len cap B g q A).mono ?_
  rintro v m ⟨k,F,r,u⟩;exact⟨p+k,k,aa,aa,rfl,fun H C=>aa,r,u⟩
theorem uZ (h:Option Addr) (N i:Nat):av Tryz.prog G 33 #[.slice h N i] [] (fun v m=>∃g,v=bf g/\m=[(g,tD h N i 0)]):=by
 refine bE Tryz.func33 fun c h0 hex=>?_
 refine go ?_
 refine bU (vs:=[.slice h N i,.int .i64 0,.int .i64 (-1)]) rfl rfl z90 rfl rfl rfl rfl ?_
 refine go ?_
 refine kw rfl rfl rfl hex fun g j=>?_
 refine go ?_
 exact af (ag [2] ⟨g,rfl,rfl⟩)
theorem u_ (j:Option Addr) (N k i p:Nat) (t:N<2^60) (q:p<2^60) (off:Nat) (g:Nat) (l:g=0\/(g=1/\off=0)\/(g=2/\off=0)) (r:off<2^61) :
  av Tryz.prog G 150 #[bf i,.int .i64 off,.int .i64 g] [(i,tD j N k p)] (fun v m =>
   v = .tuple #[.int .i64 ((if g=0 then off else if g=1 then p else N:Nat):Int),.nilIface]/\m=[(i,tD j N k (if g=0 then off else if g=1 then p else N))]):=by
 refine bE Tryz.func150 fun c h0 hex=>?_
 rcases l with rfl|⟨rfl,rfl⟩|⟨rfl,rfl⟩
 ·refine go ?_;refine ac rfl (fun h=>absurd h aa) (fun _=>?_)
  refine go ?_;refine af ?_;exact ag [6,7] (junk:=[]) ⟨rfl,rfl⟩ rfl (.cons dT .nil)
 ·refine go ?_;refine ac rfl (fun h=>absurd h aa) (fun _=>?_)
  refine go ?_;refine af ?_;exact ag [6,7] (junk:=[]) ⟨rfl,rfl⟩ rfl (.cons dT .nil)
 ·refine go ?_;refine ac rfl (fun h=>absurd h aa) (fun _=>?_)
  refine go ?_;refine af ?_;exact ag [6,7] (junk:=[]) ⟨rfl,rfl⟩ rfl (.cons dT .nil)
theorem Hu (i:Option Addr) (N j g p:Nat) (q:N<2^60) (k:p<2^60) (off:Nat) (l:off<2^61) :
  av Tryz.prog G 150 #[bf g,.int .i64 off,.int .i64 0] [(g,tD i N j p)] (fun v m=>v = .tuple #[.int .i64 off,.nilIface]/\m=[(g,tD i N j off)]) :=
 (u_ i N j g p q k off 0 (.inl rfl) l).mono fun _ _ h=>h
theorem Hv (i:Option Addr) (N j g p:Nat) (l:N<2^60) (k:p<2^60) :
  av Tryz.prog G 150 #[bf g,.int .i64 0,.int .i64 1] [(g,tD i N j p)] (fun v m=>v = .tuple #[.int .i64 p,.nilIface]/\m=[(g,tD i N j p)]) :=
 (u_ i N j g p l k 0 1 (.inr (.inl ⟨rfl,rfl⟩)) aa).mono fun _ _ h=>h
theorem Hw (i:Option Addr) (N j g p:Nat) (l:N<2^60) (k:p<2^60) :
  av Tryz.prog G 150 #[bf g,.int .i64 0,.int .i64 2] [(g,tD i N j p)] (fun v m=>v = .tuple #[.int .i64 N,.nilIface]/\m=[(g,tD i N j N)]) :=
 (u_ i N j g p l k 0 2 (.inr (.inr ⟨rfl,rfl⟩)) aa).mono fun _ _ h=>h
theorem Fj (S:bN G) (dat:Nat->Nat) (i:Option Addr) (N j h:Nat) (y:aU G i N j dat) (B:N<2^60) (p:Nat) (r:p<=N) (g:Nat) (x:Int) (s:RS) (n:Nat) (u:n<=16) :
  av Tryz.prog G 75 #[.iface 58 (bf h),.slice (some ⟨g,28,none⟩) n 16] ((g,az x s)::[(h,tD i N j p)]) (fun v m =>
   m=(g,az x { s with scr:=ov s.scr (min n (N-p)) dat p })::[(h,tD i N j (p+min n (N-p)))]/\v=kI S n (min n (N-p))):=by
 refine(kg (fH S dat i N j h y B) p g x s n r u).mono ?_
 rintro v m ⟨(z:Nat),k,h1,h2,h3,h4,h5⟩
 have l:k=min n (N-p):=h2
 have q:z=p+k:=h3
 subst q l
 exact⟨h4,h5⟩
theorem Hx:E5 Tryz.prog 170 58=some true:=by kernel_rfl
theorem rE (S:bN G) (dat:Nat->Nat) (hd:∀i,dat i<256) (q:Option Addr) (N l j:Nat) (y:aU G q N l dat) (r:N<2^60):lU (fH S dat q N l j y r):=by
 intro(g:Nat) rb x s dE hrv hscr
 refine bE Tryz.func78 fun c h0 hex=>?_
 have I:g<=N:=dE
 have B:s.rv = .iface 58 (bf j):=hrv
 obtain⟨s,rfl⟩:∃s',s={ s' with rv:=.iface 58 (bf j) }:=⟨s,by cases s;simp only at B;rw[B]⟩
 clear hrv B
 have O:∀i,s.scr i<256:=hscr
 clear hscr
 show J Tryz.prog G c _ h0 _ _ _ ((rb,az x { s with rv:=.iface 58 (bf j) })::[(j,tD q N l g)])
 refine go ?_
 refine ae (Fj S dat q N l j y r g I rb x { s with rv:=.iface 58 (bf j) } 4 aa) ?_
 rintro v m ⟨rfl,rfl⟩
 obtain⟨k,U⟩:∃k,min 4 (N-g)=k:=⟨_,rfl⟩
 rw[U]
 by_cases M:4<=k
 ·rw[eE M];refine go ?_;obtain rfl:k=4:=aa;have H:∀i,ov s.scr 4 dat g i<256:=fun i=>by unfold ov;split;exact hd _;exact O _
  refine aA (my G _ rb 28 4 16 _ _ (jF rb x _ (by simp;exact .inl rfl) 0 4 aa H) aa) ?_
  have K:eX (fun i=>ov s.scr 4 dat g (0+i))=eX (fun i=>dat (g+i)):=by simp[eX,ov]
  simp only[K]
  have ab:=lC (fun i=>dat (g+i)) (fun i=>hd _)
  generalize hz:eX (fun i=>dat (g+i))=z at *
  have u:∀(x':Int) (p:Nat) (v:Value),p<=N->((4+z<=N-g/\v = .nilIface/\p=g+4+z)\/(¬4+z<=N-g/\dM S .z v/\p=N)) ->
    ∃F C k,(fH S dat q N l j y r).ok C/\k=min 4 (N-(fH S dat q N l j y r).pos g)/\(rb,az x' { s with rv:=.iface 58 (bf j),scr:=ov s.scr 4 dat g })::[(j,tD q N l p)]=(rb,az F { s with rv:=.iface 58 (bf j),scr:=ov s.scr k dat ((fH S dat q N l j y r).pos g) })::(fH S dat q N l j y r).mem C /\
     ((4+eX (fun i=>dat ((fH S dat q N l j y r).pos g+i))<=N-(fH S dat q N l j y r).pos g/\v = .nilIface/\(fH S dat q N l j y r).pos C=(fH S dat q N l j y r).pos g+4+eX (fun i=>dat ((fH S dat q N l j y r).pos g+i))) \/
      (¬4+eX (fun i=>dat ((fH S dat q N l j y r).pos g+i))<=N-(fH S dat q N l j y r).pos g/\dM S .z v/\(fH S dat q N l j y r).pos C=N)):=fun x' p v hp h =>
   ⟨x',p,4,hp,U.symm,rfl,by
    show(4+eX (fun i=>dat (g+i))<=N-g/\v = .nilIface/\p=g+4+eX (fun i=>dat (g+i)))\/(¬4+eX (fun i=>dat (g+i))<=N-g/\dM S .z v/\p=N)
    rw[hz];exact h⟩
  refine go ?_;refine ac rfl (fun V=>?_) (fun V=>?_)
  ·refine go ?_;refine dq (op:=.add) rfl rfl rfl rfl ?_
   refine go ?_;refine af ?_;exact cL [2] rfl (post:=(rb,az _ _)::[(j,tD q N l (g+4))]) (junk:=[]) (.cons (rD _ _ _) (.refl _)) (u _ (g+4) _ aa (.inl ⟨aa,rfl,aa⟩))
  ·refine go ?_;refine CF rfl Hx GZ rfl ?_
   refine go ?_;refine dq (op:=.add) rfl rfl rfl rfl ?_
   refine go ?_;refine mu C2 rfl rfl (Hv q N l j (g+4) r aa) ?_
   rintro v m ⟨rfl,rfl⟩;refine go ?_;refine mu C2 rfl rfl (Hw q N l j (g+4) r aa) ?_
   rintro v m ⟨rfl,rfl⟩;refine go ?_;refine ac rfl (fun Y=>?_) (fun K=>?_)
   ·refine go ?_;refine dq (op:=.add) rfl rfl rfl rfl ?_
    refine go ?_;refine ae (eZ S rb _ { s with rv:=.iface 58 (bf j),scr:=ov s.scr 4 dat g } 0) ?_
    rintro v m ⟨⟨b',rfl⟩,rfl⟩;refine go ?_;exact af (ag [2] (u _ N _ (aZ _) (.inr ⟨aa,⟨b',rfl⟩,rfl⟩)))
   ·refine go ?_;refine mu C2 rfl rfl (Hu q N l j N r aa (g+4+z) aa) ?_
    rintro v m ⟨rfl,rfl⟩;refine go ?_;refine dq (op:=.add) rfl rfl rfl rfl ?_
    refine go ?_;exact af (ag [2] (u _ (g+4+z) _ aa (.inl ⟨aa,rfl,rfl⟩)))
 ·have u:∀(v:Value),dM S .z v ->
    ∃F C k',(fH S dat q N l j y r).ok C/\k'=min 4 (N-(fH S dat q N l j y r).pos g)/\(rb,az x { s with rv:=.iface 58 (bf j),scr:=ov s.scr k dat g })::[(j,tD q N l (g+k))]=(rb,az F { s with rv:=.iface 58 (bf j),scr:=ov s.scr k' dat ((fH S dat q N l j y r).pos g) })::(fH S dat q N l j y r).mem C /\
     ((4+eX (fun i=>dat ((fH S dat q N l j y r).pos g+i))<=N-(fH S dat q N l j y r).pos g/\v = .nilIface/\(fH S dat q N l j y r).pos C=(fH S dat q N l j y r).pos g+4+eX (fun i=>dat ((fH S dat q N l j y r).pos g+i))) \/
      (¬4+eX (fun i=>dat ((fH S dat q N l j y r).pos g+i))<=N-(fH S dat q N l j y r).pos g/\dM S .z v/\(fH S dat q N l j y r).pos C=N)):=fun v h =>
   ⟨x,g+k,k,(by show g+k<=N;omega),U.symm,rfl,.inr ⟨(by show ¬4+_<=N-g;omega),h,(by show g+k=N;omega)⟩⟩
  by_cases W:k=0
  ·rw[eD M W];refine go ?_;refine ae (iO S rb x _ 0) ?_
   rintro v m ⟨⟨b',rfl⟩,rfl⟩;refine go ?_;exact af (ag [2] (u _ ⟨b',rfl⟩))
  ·rw[eF M W];refine go ?_;refine ae (lD S rb x _ 0) ?_
   rintro v m ⟨⟨b',rfl⟩,rfl⟩;refine go ?_;exact af (ag [2] (u _ ⟨b',rfl⟩))
end Go.Proofs.YtogmacnlpclgkaaGreatDoor
