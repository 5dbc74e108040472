/- Texts 30. -/
import Derived.Test.YtogmacnlpclgkaaGreatDoorX29
set_option linter.all false
namespace Go.Proofs.YtogmacnlpclgkaaGreatDoor
open Go Go.Eng Go.Pz
attribute [local irreducible] RO J av aO
set_option maxRecDepth 20000
variable {G:ao} {d:Nat->Nat}
theorem vL (d:Nat->Nat) (o l k:Nat) (h:k<=l):kQ (aX d o) (l:Nat) k=aq d (8*o+l-k) k:=by
 rw[iJ _ _ _ h,du,Nat.add_sub_assoc h]
theorem BT {N g i log c q:Nat} {sh:Nat->Int} (h:eI false d N g i 0=some (log,sh,c,q)):0<N:=by
 rcases Nat.eq_zero_or_pos N with h0|h0
 ·subst h0;unfold eI at h;rw[ai (by rw[ah Bool.false_ne_true];omega)] at h
  cases h
 ·exact h0
def oy (w:Nat->Nat):Nat->Value:=fun i=>.int .i64 (w i:Nat)
theorem kV {sm:ao} {j:Option Addr} {len k:Nat} {z:Nat->Int} (h:dH 1 (.slice j len k) len (je z) sm):fR sm j len k z:=by
 rcases h with⟨g,rfl,rfl⟩|⟨b,o,cap,B,g,rfl,q,r,p,l⟩
 ·cases g;exact⟨aZ _,.inl ⟨rfl,rfl,rfl⟩⟩
 ·cases g;exact⟨p,.inr ⟨b,o,B,rfl,List.mem_cons_self,fun _=>aa,fun i hi=>l i aa⟩⟩
structure Kz where
 i:Nat
 g:Nat->Value
 l:Nat
 s1:Nat
 s2:Nat
 w:Nat->Nat
 c:Nat
 k:Nat
 oa:Option Addr
 cp:Nat
 om:ao
 j:ao
set_option maxHeartbeats 1000000 in
theorem xB (da:Option Addr) (N u:Nat) (hd:∀i,d i<256) (hv:aU G da N u d) (hN:N<=2^30) :
  av Tryz.prog G 69 #[.slice da N u] [] (fun v m=>match pv d N with
   | none=>∃oa n u,v = .tuple #[.slice oa n u,.bool false]
   | some (w,c)=>∃oa u,v = .tuple #[.slice oa c u,.bool true]/\dH 1 (.slice oa c u) c (oy w) m):=by
 refine bE Tryz.func69 fun c0 h0 hex=>?_
 refine go ?_
 refine ae (Ak da N u hd hv aa 6 255 aa aa) ?_
 unfold pv
 cases hP:eI false d N 6 255 0 with
 | none =>
  rintro v m rfl;refine go ?_;exact af (bx [2,3] ⟨_,_,_,rfl⟩)
 | some r =>
  obtain⟨log,sh,c,q⟩:=r;rintro v om ⟨out,rfl,b3⟩;obtain⟨sa,sc,rfl⟩:=bV b3;obtain⟨_,hq,cw,ca,hc,_,hF⟩:=kq aa hP;have cb:=BT hP
  obtain⟨b0,o0,rfl⟩:=hv.some cb;dsimp only;obtain⟨o,ho⟩:∃o,o=(q+7)/8:=⟨_,rfl⟩
  rw[<- ho];have b7:o<=N:=aa
  refine go ?_;refine ls rfl rfl rfl ?_
  rw[show(if((N:Nat):Int)<((o:Nat):Int) then((N:Nat):Int) else((o:Nat):Int))=((o:Nat):Int) from ah aa];refine go ?_;refine cT o N hv rfl rfl rfl rfl rfl rfl rfl b7 hv.le rfl ?_
  have a1:aU G (ek (some ⟨b0,o0,none⟩) o u) (N-o) (u-o) (aX d o):=hv.sub b7 (aZ _)
  refine ae (oq (d:=aX d o) (ek (some ⟨b0,o0,none⟩) o u) (N-o) (u-o) (fun i=>hd _) a1 aa) ?_ (fm:=om) (hs:=.of_perm an)
  intro v m a4;have O:N-o≠0->aX d o (N-o-1)=d (N-1):=fun h=>by unfold aX;rw[show o+(N-o-1)=N-1 from aa]
  by_cases C:N-o=0\/aX d o (N-o-1)=0
  ·rw[ai C] at a4;subst a4;have hR:∀{α} (x:Option α),(if N<=o then none else if d (N-1)=0 then none else x)=none:=fun x=>by
    by_cases h0:N-o=0
    ·rw[ai aa]
    ·rw[ah aa,ai];rw[<- O h0];exact C.resolve_left h0
   refine go ?_;exact af (bx [2,3] (by rw[hR];exact⟨_,_,_,rfl⟩))
  rw[ah C] at a4;obtain⟨K,rfl,rfl⟩:=a4;have aw:=not_or.1 C
  have b6:d (N-1)≠0:=by rw[<- O aw.1];exact aw.2
  have cs:o<N:=aa
  rw[ah (show ¬N<=o from aa),ah b6];obtain⟨l0,a0⟩:∃l0,l0=dU (aX d o) (N-o-1):=⟨_,rfl⟩
  have bs:dU d (N-1)=8*o+l0:=by rw[a0];unfold dU;rw[O aw.1];omega
  have bt:l0<=8*(N-o):=by
   rw[a0];unfold dU;have h1:d (N-1)<256:=hd _
   rw[O aw.1];have:=(Nat.log2_lt (n:=d (N-1)) (k:=8) b6).2 h1
   omega
  rw[<- a0,bs];clear a0 bs C aw O;refine go ?_;refine ar (av.freeze (fm:=om) (qg sa c sc sh ((kV b3).mono fun p hp=>List.mem_append.2 (.inl hp)) log hF aa aa)) ?_ (fm:=[(K,cI (ek (some ⟨b0,o0,none⟩) o u) (N-o) (u-o) (l0:Nat))]) (hs:=.of_perm an)
  rintro v m ⟨m0,⟨tb,J,rfl,rfl,hT⟩,rfl⟩;refine go ?_;refine aC z128 rfl hex fun pb cu=>?_
  refine go ?_;refine ak (s:=1) (vs:=[.slice (bi tb) (2^log) (2^log),ay log]) rfl rfl rfl rfl (cC rfl) .here (aZ 2) rfl hex ?_
  refine bj (m':=(pb,ir tb (2^log) log)::(K,cI (ek (some ⟨b0,o0,none⟩) o u) (N-o) (u-o) (l0:Nat))::(tb,J)::om) ci ?_
  refine go ?_;refine ae (nt (d:=aX d o) K _ (N-o) (u-o) (fun i=>hd _) a1 aa (l0:Nat) aa aa log aa) ?_ (fm:=(pb,ir tb (2^log) log)::(tb,J)::om) (hs:=.of_perm an)
  rintro v m ⟨rfl,rfl⟩;refine go ?_;refine ae (nt (d:=aX d o) K _ (N-o) (u-o) (fun i=>hd _) a1 aa ((l0:Nat)-(log:Nat)) aa aa log aa) ?_ (fm:=(pb,ir tb (2^log) log)::(tb,J)::om) (hs:=.refl _)
  rintro v m ⟨rfl,rfl⟩;obtain⟨v1,a3⟩:∃v1,v1=kQ (aX d o) (l0:Nat) log:=⟨_,rfl⟩
  obtain⟨v2,I⟩:∃v2,v2=kQ (aX d o) ((l0:Nat)-(log:Nat)) log:=⟨_,rfl⟩
  have ax:v1<2^log:=by rw[a3];exact fC _ _ _
  have ad:v2<2^log:=by rw[I];exact fC _ _ _
  rw[<- a3,<- I];refine go ?_;refine gc (vs:=[ay v1,ay v2]) rfl rfl z164 rfl rfl rfl rfl ?_
  refine go ?_;refine aC z164 rfl hex fun ab cx=>?_
  refine go ?_;refine ak (s:=1) (vs:=[ay v1,ay v2]) rfl rfl rfl rfl (cC rfl) .here (aZ 2) rfl hex ?_
  refine go ?_;refine ac rfl (fun b1=>?_) (fun a8=>?_)
  ·rw[ai aa];refine go ?_;exact af (bx [2,3] ⟨_,_,_,rfl⟩)
  rw[ah aa];obtain⟨M,cc⟩:∃M,l0=M+log+log:=⟨l0-log-log,aa⟩
  subst cc;have e1:v1=aq d (8*o+(M+log+log)-log) log:=by rw[a3,vL _ _ _ _ aa]
  have e2:v2=aq d (8*o+(M+log+log)-log-log) log:=by rw[I,show(((M+log+log:Nat):Int)-(log:Nat))=((M+log:Nat):Int) from aa,vL _ _ _ _ aa];congr 1;omega
  rw[<- e1,<- e2,show 8*o+(M+log+log)-log-log=8*o+M from aa];obtain⟨E,y⟩:∃E,E=dh (aI sh c (2^log)) (aG sh c log) (bO sh c log) d o 256 (8*o+M) v1 v2 (fun _=>0) 0:=⟨_,rfl⟩
  rw[<- y];clear e1 e2 a3 I a8;have H:=fun p hp=>h_ hF (p:=p) hp
  have h6:2^log<=2^6:=Nat.pow_le_pow_right aa ca
  obtain⟨n,hn⟩:∃n,n=2^log:=⟨_,rfl⟩
  rw[<- hn] at hT H ax ad y h6 ⊢;have bo:=hT
  obtain⟨bo,bv⟩:=bo;have ba:∀p,p<n->0+p*(2+1)+0<J.n:=fun p hp=>aa
  clear bo;have b9:∀p,p<n->aG sh c log p<=30/\bO sh c log p<=2^30:=fun p hp=>by
   obtain⟨_,q2,q3⟩:=H p hp;have q4:=Nat.le_trans (Nat.le_add_right _ _) q3
   exact⟨aa,aa⟩
  refine go ?_;refine aH (σ:=Kz) [] (fun t=>[(8,bf K),(9,bf pb),(10,bf ab),(11,.slice t.oa t.c t.cp),(12,ay t.i)])
   (fun t=>(ab,⟨2,t.g,164,(0,0)⟩)::(K,cI (ek (some ⟨b0,o0,none⟩) o u) (N-o) (u-o) (t.l:Nat))::(pb,ir tb n log)::(tb,J)::(t.om++t.j))
   (fun t=>t.i<=1/\t.g (0+t.i)=ay t.s1/\t.g (0+(1-t.i))=ay t.s2/\t.s1<n/\t.s2<n/\t.l<=8*(N-o)/\t.c+t.k=256/\t.c<=255/\dH 1 (.slice t.oa t.c t.cp) t.c (oy t.w) t.om /\
    dh (aI sh c n) (aG sh c log) (bO sh c log) d o t.k (8*o+t.l) t.s1 t.s2 t.w t.c=E) (fun t=>t.k)
   ⟨0,ct [ay v1,ay v2],M,v1,v2,fun _=>0,0,256,none,0,[],om⟩ ?_ ⟨by dsimp only;omega,rfl,rfl,ax,ad,by dsimp only;omega,rfl,by dsimp only;omega,.inl ⟨rfl,rfl,rfl⟩,y.symm⟩ ?_
  ·refine .cons dT (.cons ?_ (.refl _))
   show _=_
   rw[show(((M+log+log:Nat):Int)-(log:Nat)-(log:Nat))=((M:Nat):Int) from aa]
  clear y ax ad bt;rintro⟨i,g,l,s1,s2,w,c1,k,oa,cq,ch,j⟩ f ⟨hi,a5,bq,V,a2,cn,cd,br,am,y⟩;dsimp only at hi a5 bq V a2 cn cd br am y ⊢;obtain⟨k,rfl⟩:∃k',k=k'+1:=⟨k-1,aa⟩
  rw[dh] at y;refine go ?_;refine aF (v:=ay s1) rfl rfl .here (by show 0+i<2;omega) a5 rfl ?_
  refine go ?_;refine aF (v:=.int .i64 (aI sh c n s1:Nat)) rfl rfl (.there (.there (.there .here))) (ba s1 V) (by rw[show 0+s1*(2+1)+0=s1*3 from aa];exact(bv s1 V).1) rfl ?_
  refine go ?_;refine au (z:=.int .i64 0) (vs:=[.int .i64 (aI sh c n s1:Nat)]) rfl rfl z3 rfl rfl rfl rfl hex fun sb _=>?_
  refine go ?_;refine bg (s:=0) (src:=fun x=>(aj [.int .i64 (aI sh c n s1:Nat)] 3).g (0+x)) (k:=1) (len:=c1) (v:=.slice oa (c1) cq) (cl:=oy w) (sm:=ch) (fm:=(sb,aj [.int .i64 (aI sh c n s1:Nat)] 3)::(ab,⟨2,g,164,(0,0)⟩)::(K,cI (ek (some ⟨b0,o0,none⟩) o u) (N-o) (u-o) (l:Nat))::(pb,ir tb n log)::(tb,J)::j) rfl rfl rfl rfl z3 (by decide) rfl rfl am
   an (k_.of (B:=aj [.int .i64 (aI sh c n s1:Nat)] 3) (by simp) (by show 0+1*(0+1)<=1;decide)) (fun x hx=>by rw[show x=0 from by have h:x<1:=hx;omega];rfl) aa hex rfl ?_
  intro v' om2 Y W
  clear W;obtain⟨be,bm,rfl⟩:=bV Y;have a6:dH 1 (.slice be (c1+1) bm) (c1+1) (oy (cV w c1 (aI sh c n s1))) om2:=bR Y fun x hx=>by
   have hx:x<(c1+1)*(0+1):=hx
   by_cases b8:x<c1
   ·rw[ai aa];unfold oy;rw[bz _ _ _ _ aa]
   ·rw[ah aa,show x-c1*(0+1)=0 from aa];unfold oy;rw[show x=c1 from aa,bL];rfl
  clear am Y;refine bj (m':=(ab,⟨2,g,164,(0,0)⟩)::(K,cI (ek (some ⟨b0,o0,none⟩) o u) (N-o) (u-o) (l:Nat))::(pb,ir tb n log)::(tb,J)::(om2++((sb,aj [.int .i64 (aI sh c n s1:Nat)] 3)::j))) (.of_perm an) ?_
  refine go ?_;refine cz (s:=1) rfl rfl rfl (.there (.there .here)) (aZ 2) rfl ?_
  refine go ?_;refine aF (v:=ay s1) rfl rfl .here (by show 0+i<2;omega) a5 rfl ?_
  refine go ?_;refine ar (av.freeze (fm:=[(tb,J)]) (DS (d:=aX d o) K _ (N-o) (u-o) (fun i=>hd _) (a1.mono fun p hp=>List.mem_append.2 (.inr hp)) aa (l:Nat) aa aa tb n n log J _ _ _ (List.mem_append.2 (.inl List.mem_cons_self)) hT b9 s1 V)) ?_ (fm:=(ab,⟨2,g,164,(0,0)⟩)::(pb,ir tb n log)::(om2++((sb,aj [.int .i64 (aI sh c n s1:Nat)] 3)::j))) (hs:=.of_perm an)
  rintro v m ⟨m0,⟨rfl,rfl⟩,rfl⟩;obtain⟨s3,bd⟩:∃s3,s3=bO sh c log s1+kQ (aX d o) (l:Nat) (aG sh c log s1):=⟨_,rfl⟩
  rw[<- bd];refine go ?_;refine bD (B:=⟨2,g,164,(0,0)⟩) (v:=ay s3) rfl rfl rfl rfl .here (by show 0+i<2;omega) rfl hex ?_
  obtain⟨g2,F⟩:∃g2,g2=gK g (0+i) (ay s3):=⟨_,rfl⟩
  refine cA (m':=(ab,⟨2,g2,164,(0,0)⟩)::(K,cI (ek (some ⟨b0,o0,none⟩) o u) (N-o) (u-o) ((l:Nat)-(aG sh c log s1:Nat)))::(pb,ir tb n log)::(tb,J)::(om2++((sb,aj [.int .i64 (aI sh c n s1:Nat)] 3)::j))) ?hM2 ?hQ2 ?hR2
  case hM2=>rw[F];exact .cons rfl (.of_perm an)
  case hQ2=>intro f h;refine bZ ?_ h;rw[F];exact .cons rfl (.of_perm an)
  have a7:g2 (0+(1-i))=ay s2:=by rw[F,aT _ _ _ _ aa];exact bq
  have bu:g2 (0+i)=ay s3:=by rw[F,cG]
  clear a5 bq F;refine go ?_;refine ac rfl (fun b1=>?_) (fun a8=>?_)
  ·rw[ai (fun h=>by rw[dj aa] at h;omega)] at y
   refine go ?_;refine aF (v:=ay s2) rfl rfl .here (by show 0+(1-i)<2;omega) a7 rfl ?_
   refine go ?_;refine aF (v:=.int .i64 (aI sh c n s2:Nat)) rfl rfl (.there (.there (.there .here))) (ba s2 a2) (by rw[show 0+s2*(2+1)+0=s2*3 from aa];exact(bv s2 a2).1) rfl ?_
   refine go ?_;refine au (z:=.int .i64 0) (vs:=[.int .i64 (aI sh c n s2:Nat)]) rfl rfl z3 rfl rfl rfl rfl hex fun b4 _=>?_
   refine go ?_;refine bg (s:=0) (src:=fun x=>(aj [.int .i64 (aI sh c n s2:Nat)] 3).g (0+x)) (k:=1) (len:=c1+1) (v:=.slice be (c1+1) bm) (cl:=oy (cV w c1 (aI sh c n s1))) (sm:=om2) (fm:=(b4,aj [.int .i64 (aI sh c n s2:Nat)] 3)::(sb,aj [.int .i64 (aI sh c n s1:Nat)] 3)::(ab,⟨2,g2,164,(0,0)⟩)::(K,cI (ek (some ⟨b0,o0,none⟩) o u) (N-o) (u-o) ((l:Nat)-(aG sh c log s1:Nat)))::(pb,ir tb n log)::(tb,J)::j) rfl rfl rfl rfl z3 (by decide) rfl rfl a6
    an (k_.of (B:=aj [.int .i64 (aI sh c n s2:Nat)] 3) (by simp) (by show 0+1*(0+1)<=1;decide)) (fun x hx=>by rw[show x=0 from by have h:x<1:=hx;omega];rfl) aa hex rfl ?_
   intro v' om3 bc W
   clear W;obtain⟨al,U,rfl⟩:=bV bc;have b2:dH 1 (.slice al (c1+1+1) U) (c1+1+1) (oy (cV (cV w c1 (aI sh c n s1)) (c1+1) (aI sh c n s2))) om3:=bR bc fun x hx=>by
    have hx:x<(c1+1+1)*(0+1):=hx
    by_cases b8:x<c1+1
    ·rw[ai aa];unfold oy;rw[bz (i:=c1+1) _ _ _ aa]
    ·rw[ah aa,show x-(c1+1)*(0+1)=0 from aa];unfold oy;rw[show x=c1+1 from aa,bL];rfl
   refine go ?_;refine af ?_;refine ag [2,3] (post:=om3) (junk:=(b4,aj [.int .i64 (aI sh c n s2:Nat)] 3)::(sb,aj [.int .i64 (aI sh c n s1:Nat)] 3)::(ab,⟨2,g2,164,(0,0)⟩)::(K,cI (ek (some ⟨b0,o0,none⟩) o u) (N-o) (u-o) ((l:Nat)-(aG sh c log s1:Nat)))::(pb,ir tb n log)::(tb,J)::j) ?_ rfl (.of_perm an)
   by_cases a9:254<=c1
   ·rw[ai a9] at y;rw[<- y];refine⟨al,c1+1+1,U,?_⟩
    show Value.tuple #[.slice al (c1+1+1) U,.bool (decide (((c1+1+1:Nat):Int)<=255))]=_
    rw[decide_eq_false aa]
   ·rw[ah a9] at y;rw[<- y];refine⟨al,U,?_,b2⟩
    show Value.tuple #[.slice al (c1+1+1) U,.bool (decide (((c1+1+1:Nat):Int)<=255))]=_
    rw[decide_eq_true aa]
  rw[ah (fun h=>h ((dj aa).2 aa))] at y
  refine go ?_;refine ac rfl (fun cr=>?_) (fun ce=>?_)
  ·rw[ai aa] at y;rw[<- y];refine go ?_;exact af (bx [2,3] ⟨_,_,_,rfl⟩)
  rw[ah aa] at y;obtain⟨q1,q2,q3⟩:=H s1 V;have cm:=fC (aX d o) (l:Nat) (aG sh c log s1)
  have hv:kQ (aX d o) (l:Nat) (aG sh c log s1)=dQ d (8*o+l) (aG sh c log s1):=by
   rw[vL _ _ _ _ aa,rvV_al2 aa]
  have b5:s3<n:=by rw[bd];exact Nat.lt_of_lt_of_le (Nat.add_lt_add_left cm _) q3
  rw[<- hv,<- bd] at y;refine go ?_;refine⟨⟨1-i,g2,l-aG sh c log s1,s2,s3,cV w c1 (aI sh c n s1),c1+1,k,be,bm,om2,(sb,aj [.int .i64 (aI sh c n s1:Nat)] 3)::j⟩,by dsimp only;omega,⟨by dsimp only;omega,a7,by dsimp only;rw[show 1-(1-i)=i from aa];exact bu,a2,b5,by dsimp only;omega,by dsimp only;omega,by dsimp only;omega,a6,?_⟩,cF,.skip (.cons ?_ (.refl _))⟩
  ·dsimp only;rw[show 8*o+(l-aG sh c log s1)=8*o+l-aG sh c log s1 from aa];exact y
  ·show _=_
   rw[show((l-aG sh c log s1:Nat):Int)=(l:Int)-(aG sh c log s1:Nat) from aa]
theorem Ha {n:Nat} {w:Nat->Nat} {c:Nat} (h:pv d n=some (w,c)):c<=255:=by
 unfold pv at h
 split at h
 ·cases h
 ·dsimp only at h;split at h
  ·cases h
  split at h
  ·cases h
  split at h
  ·cases h
  ·exact qj h
structure Kr where
 w:Nat->Nat
 c:Nat
 oa:Option Addr
 cp:Nat
 om:ao
 j:ao
def BU (d:Nat->Nat) (i:Nat):Nat:=if i%2=0 then d (1+i/2)/16 else d (1+i/2)%16
def KA (r:Option (jR×Nat)) (v:Value) (m:ao):Prop:=match r with
 | none=>∃y:Int,v = .tuple #[.pointer none,.int .i64 y,.bool false]
 | some (T,k)=>∃p,v = .tuple #[.pointer p,ay k,.bool true]/\sX (some T) p m
set_option maxHeartbeats 1000000 in
theorem D5 (da:Option Addr) (N C:Nat) (hd:∀i,d i<256) (M:aU G da N C d) (hN:N<=2^30) :
  av Tryz.prog G 55 #[.slice da N C] [] (KA (kR d N)):=by
 refine bE Tryz.func55 fun c0 h0 hex=>?_
 obtain⟨E,l⟩:∃E,E=kR d N:=⟨_,rfl⟩
 rw[<- l]
 unfold kR at l
 refine go ?_
 refine ac rfl (fun hz=>?_) (fun hz=>?_)
 ·rw[ai aa] at l;subst l;refine go ?_;exact af (bx [2,3,4] ⟨_,rfl⟩)
 rw[ah aa] at l
 obtain⟨b0,o0,rfl⟩:=M.some aa
 have am:=hd 0
 dsimp only at l
 obtain⟨size,hsz⟩:∃size,size=if d 0<128 then d 0 else(d 0-127+1)/2:=⟨_,rfl⟩
 obtain⟨sx,q⟩:∃sx,sx=if d 0<128 then d 0 else d 0-127:=⟨_,rfl⟩
 rw[<- hsz] at l
 have aw:size<=128:=by rw[hsz];split<;>omega
 refine go ?_
 refine bp (σ:=Unit) [] (fun _=>[(0,.slice (some ⟨b0,o0,none⟩) N C),(5,.slice none 0 0),(6,ay sx),(7,ay size)]) (fun _=>[]) (fun _=>True) ?_ ?_
 ·refine ac rfl (fun hb=>?_) (fun hb=>?_)
  ·refine go ?_;exact⟨(),trivial,⟨rfl,rfl,by rw[q,ah aa];rfl,by rw[hsz,ah aa];rfl,trivial⟩,.refl _⟩
  ·refine go ?_;exact⟨(),trivial,⟨rfl,rfl,by rw[q,ai aa];rfl,by rw[hsz,ai aa];rfl,trivial⟩,.refl _⟩
 rintro _ f -
 refine go ?_
 refine ac rfl (fun a0=>?_) (fun a1=>?_)
 ·rw[ai aa] at l;subst l;refine go ?_;exact af (bx [2,3,4] ⟨_,rfl⟩)
 rw[ah aa] at l
 refine go ?_
 refine bp (σ:=Kr) [] (fun t=>[(5,.slice t.oa t.c t.cp),(7,ay size)]) (fun t=>t.om++t.j) (fun t=>t.c<=255/\dH 1 (.slice t.oa t.c t.cp) t.c (oy t.w) t.om/\E=(d_ t.w t.c).map fun T=>(T,1+size)) ?_ ?_
 ·refine ac rfl (fun hb=>?_) (fun hb=>?_)
  ·rw[ah aa] at l;rw[ah aa] at q hsz;refine go ?_;refine aH (σ:=Kr) [] (fun t=>[(0,.slice (some ⟨b0,o0,none⟩) N C),(5,.slice t.oa t.c t.cp),(7,ay size),(36,ay sx),(37,ay t.c)]) (fun t=>t.om++t.j) (fun t=>t.c<=sx/\dH 1 (.slice t.oa t.c t.cp) t.c (oy (BU d)) t.om) (fun t=>sx-t.c) ⟨BU d,0,none,0,[],[]⟩ (.refl _) ⟨Nat.zero_le _,.inl ⟨rfl,rfl,rfl⟩⟩ ?_
   rintro⟨w,i,y,u,O,j⟩ f ⟨hi,hs⟩;dsimp only at hi hs ⊢;refine go ?_;refine ac rfl (fun ad=>?_) (fun ab=>?_)
   ·have ax:1+i/2<N:=aa
    have Y:=hd (1+i/2)
    have hX:d (1+i/2)/2^(4-i%2*4)<256:=Nat.lt_of_le_of_lt (Nat.div_le_self _ _) Y
    refine go ?_;have V:d (1+i/2)/2^(4-i%2*4)%16=BU d i:=by
     unfold BU;rcases Nat.mod_two_eq_zero_or_one i with h|h
     ·rw[ai h,h];show d (1+i/2)/2^4%16=d (1+i/2)/16
      omega
     ·rw[ah aa,h];show d (1+i/2)/2^0%16=d (1+i/2)%16
      rw[Nat.pow_zero,Nat.div_one]
    rw[V];refine au (z:=.int .i64 0) (vs:=[.int .i64 (BU d i:Nat)]) rfl rfl z3 rfl rfl rfl rfl hex fun sb _=>?_
    refine go ?_;refine bg (s:=0) (src:=fun x=>(aj [.int .i64 (BU d i:Nat)] 3).g (0+x)) (k:=1) (len:=i) (v:=.slice y i u) (cl:=oy (BU d)) (sm:=O) (fm:=(sb,aj [.int .i64 (BU d i:Nat)] 3)::j) rfl rfl rfl rfl z3 (by decide) rfl rfl hs
     an (k_.of (B:=aj [.int .i64 (BU d i:Nat)] 3) (by simp) (by show 0+1*(0+1)<=1;decide)) (fun x hx=>by rw[show x=0 from by have h:x<1:=hx;omega];rfl) aa hex rfl ?_
    intro v' om2 H I
    clear I;obtain⟨J,K,rfl⟩:=bV H;have U:dH 1 (.slice J (i+1) K) (i+1) (oy (BU d)) om2:=bR H fun x hx=>by
     have hx:x<(i+1)*(0+1):=hx
     by_cases al:x<i
     ·rw[ai aa]
     ·rw[ah aa,show x-i*(0+1)=0 from aa];unfold oy;rw[show x=i from aa];rfl
    refine go ?_;exact⟨⟨BU d,i+1,J,K,om2,(sb,aj [.int .i64 (BU d i:Nat)] 3)::j⟩,by dsimp only;omega,⟨by dsimp only;omega,U⟩,cF,.of_perm an⟩
   ·obtain rfl:i=sx:=aa;refine go ?_;exact⟨⟨BU d,i,y,u,O,j⟩,⟨by dsimp only;omega,hs,by rw[l,q];rfl⟩,cF,.refl _⟩
  ·rw[ai aa] at l;rw[ai aa] at q hsz;subst hsz;refine go ?_;refine cT 1 (1+d 0) M rfl rfl rfl rfl rfl rfl rfl aa (by have:=M.le;omega) rfl ?_
   have F:aU G (ek (some ⟨b0,o0,none⟩) 1 C) (1+d 0-1) (C-1) (aX d 1):=M.sub aa aa
   rw[Nat.add_sub_cancel_left] at F ⊢;refine ae (xB (d:=aX d 1) _ (d 0) _ (fun i=>hd _) F aa) ?_
   cases hW:pv (aX d 1) (d 0) with
   | none =>
    rintro v m ⟨x,x2,x3,rfl⟩;rw[hW] at l;subst l;refine go ?_;exact af (bx [2,3,4] ⟨_,rfl⟩)
   | some r =>
    obtain⟨w,c⟩:=r;rintro v m ⟨y,u,rfl,hs⟩;rw[hW] at l;refine go ?_;exact⟨⟨w,c,y,u,m,[]⟩,⟨Ha hW,hs,l⟩,cF,.refl _⟩
 rintro⟨w,c,y,u,O,j⟩ f ⟨hc,hs,he⟩
 dsimp only at hc hs he ⊢
 subst he
 refine go ?_
 refine ar (av.freeze (fm:=O) (D0 y c u w ((kV (z:=fun i=>((w i:Nat):Int)) hs).mono fun p hp=>List.mem_append.2 (.inl hp)) hc)) ?_ (fm:=j) (hs:=.of_perm an)
 cases d_ w c with
 | none =>
  rintro v m ⟨m0,rfl,rfl⟩;refine go ?_;exact af (bx [2,3,4] ⟨_,rfl⟩)
 | some T =>
  rintro v m ⟨m0,⟨p,rfl,hT⟩,rfl⟩;have W:=hT
  obtain⟨pb,_,_,_,_,_,_,rfl,_⟩:=W;refine go ?_;exact af (ii [2,3,4] (m0) ⟨_,rfl,hT⟩)
structure D6 (G:ao) (T:jR) (pb:Nat) (sa:Option Addr) (sc:Nat) (ba:Option Addr) (bc:Nat):Prop where
 b:(pb,lY sa sc ba bc (2^T.most) T.most)∈G
 s:fR G sa (2^T.most) sc (fun q=>((T.tab q/256:Nat):Int))
 t:fR G ba (2^T.most) bc (fun q=>((T.tab q%256:Nat):Int))
 m:T.most<=11
 o:∀q,q<2^T.most->T.tab q<65536
def vM (r:Ve (Nat->Nat)) (K:Nat) (v:Value) (m:ao):Prop:=match r with
 | .op=>v = .tuple #[.slice none 0 0,.int .i64 0]
 | .wr=>v = .tuple #[.slice none 0 0,.int .i64 2]
 | .ok L=>∃h g,v = .tuple #[.slice h K g,.int .i64 1]/\dH 1 (.slice h K g) K (dw L) m
structure KB where
 i:Nat
 oa:Option Addr
 cp:Nat
 om:ao
 j:ao
set_option maxHeartbeats 1000000 in
theorem xC (T:jR) (pb:Nat) (sa:Option Addr) (sc:Nat) (ba:Option Addr) (bc:Nat) (J:D6 G T pb sa sc ba bc) (u:Option Addr) (N r:Nat) (hd:∀i,d i<256) (hv:aU G u N r d) (hN:N<=2^30) (K:Nat) (hK:K<=2^20) :
  av Tryz.prog G 71 #[bf pb,.slice u N r,ay K] [] (vM (kC T d N K) K):=by
 refine bE Tryz.func71 fun c0 h0 hex=>?_
 obtain⟨E,y⟩:∃E,E=kC T d N K:=⟨_,rfl⟩
 rw[<- y]
 unfold kC at y
 refine go ?_
 refine ac rfl (fun hz=>?_) (fun hz=>?_)
 ·rw[ai aa] at y;subst y;refine go ?_;exact af (bx [6,7] rfl)
 rw[ah aa] at y
 refine go ?_
 refine ae (oq u N r hd hv aa) ?_
 intro v m C
 by_cases q:d (N-1)=0
 ·rw[ai (.inr q)] at C;rw[ai q] at y;subst C y
  refine go ?_;exact af (bx [6,7] rfl)
 rw[ah aa] at C
 rw[ah q] at y
 obtain⟨O,rfl,rfl⟩:=C
 obtain⟨p,I⟩:∃p,p=dU d (N-1):=⟨_,rfl⟩
 have a9:p<=8*N:=by
  rw[I];unfold dU;have h1:d (N-1)<256:=hd _
  have:=(Nat.log2_lt (n:=d (N-1)) (k:=8) q).2 h1
  omega
 rw[<- I] at y ⊢
 clear I q
 have ax:∀i,i<=K->pH T d p i<=p/\(p:Int)-256*i<=pH T d p i:=by
  intro i
  induction i with
  | zero=>intro _;exact⟨Int.le_refl _,by show(p:Int)-256*0<=p;omega⟩
  | succ i ih =>
   intro hi;obtain⟨h1,h2⟩:=ih aa;have h3:pH T d p (i+1)=pH T d p i-(T.tab (kQ d (pH T d p i) T.most)%256:Nat):=rfl
   have h4:T.tab (kQ d (pH T d p i) T.most)%256<256:=Nat.mod_lt _ (by decide)
   omega
 refine go ?_
 refine aH (σ:=KB) [] (fun t=>[(0,bf pb),(8,bf O),(10,.slice t.oa t.i t.cp),(23,ay K),(24,ay t.i)]) (fun t=>(O,cI u N r (pH T d p t.i))::(t.om++t.j)) (fun t=>t.i<=K/\dH 1 (.slice t.oa t.i t.cp) t.i (dw (IW T d p)) t.om) (fun t=>K-t.i) ⟨0,none,0,[],[]⟩ (.refl _) ⟨Nat.zero_le _,.inl ⟨rfl,rfl,rfl⟩⟩ ?_
 rintro⟨i,oa,cq,om,j⟩ f ⟨hi,hs⟩
 dsimp only at hi hs ⊢
 obtain⟨a5,a2⟩:=ax i hi
 obtain⟨l,hl⟩:∃l,l=pH T d p i:=⟨_,rfl⟩
 rw[<- hl] at a5 a2 ⊢
 refine go ?_
 refine ac rfl (fun bm=>?_) (fun br=>?_)
 ·refine go ?_;refine cz (s:=1) rfl rfl rfl .here (aZ 2) rfl ?_
  refine go ?_;refine aC z140 rfl hex fun kb be=>?_
  refine go ?_;refine ak (s:=1) (vs:=[.slice u N r,.int .i64 l]) rfl rfl rfl rfl (cC rfl) .here (aZ 2) rfl hex ?_
  refine bj (m':=(kb,cI u N r l)::(O,cI u N r l)::(om++j)) ci ?_
  refine go ?_;refine aK (v:=ay T.most) rfl rfl (List.mem_append.2 (.inr J.b)) (by show 0+2<3;decide) rfl rfl ?_
  refine go ?_;refine ae (nt kb u N r hd hv aa l aa aa T.most (by have:=J.m;omega)) ?_ (fm:=(O,cI u N r l)::(om++j)) (hs:=.refl _)
  rintro v m ⟨rfl,rfl⟩;obtain⟨k,hk⟩:∃k,k=kQ d l T.most:=⟨_,rfl⟩
  have M:k<2^T.most:=by rw[hk];exact fC _ _ _
  rw[<- hk];have H:=Nat.two_pow_pos T.most
  obtain⟨b1,o1,B1,rfl,a0,am,Y⟩:=J.s.some H;obtain⟨b2,o2,B2,rfl,a4,ab,V⟩:=J.t.some H;have bq:T.tab k%256<256:=Nat.mod_lt _ (by decide)
  have a8:=J.o k M
  have a1:o1+k<B1.n:=aa
  have a6:o2+k<B2.n:=aa
  have aw:pH T d p (i+1)=l-(T.tab k%256:Nat):=by rw[hk,hl];rfl
  have lW:IW T d p i=T.tab k/256:=by rw[hk,hl];rfl
  clear am ab;refine go ?_;refine aK (v:=.slice (some ⟨b2,o2,none⟩) (2^T.most) bc) rfl rfl (List.mem_append.2 (.inr J.b)) (by show 0+1<3;decide) rfl rfl ?_
  refine go ?_;refine aK (v:=.int .i64 ((T.tab k%256:Nat):Int)) rfl rfl (List.mem_append.2 (.inr a4)) a6 (V k M) rfl ?_
  refine go ?_;refine aK (v:=.slice (some ⟨b1,o1,none⟩) (2^T.most) sc) rfl rfl (List.mem_append.2 (.inr J.b)) (by show 0+0<3;decide) rfl rfl ?_
  refine go ?_;refine aK (v:=.int .i64 ((T.tab k/256:Nat):Int)) rfl rfl (List.mem_append.2 (.inr a0)) a1 (Y k M) rfl ?_
  refine go ?_;refine au (z:=.int .u8 0) (vs:=[.int .u8 ((T.tab k/256:Nat):Int)]) rfl rfl z5 rfl rfl rfl rfl hex fun xb bo=>?_
  refine cA (m':=(xb,aj [.int .u8 ((T.tab k/256:Nat):Int)] 5)::(kb,cI u N r (l-(T.most:Nat)))::(O,cI u N r (pH T d p (i+1)))::(om++j)) ?hM2 ?hQ2 ?hR2
  case hM2=>rw[aw];exact .skip (.skip ci)
  case hQ2=>intro f h;refine bZ ?_ h;rw[aw];exact .skip (.skip ci)
  refine go ?_;refine bg (s:=0) (src:=fun x=>(aj [.int .u8 ((T.tab k/256:Nat):Int)] 5).g (0+x)) (k:=1) (len:=i) (v:=.slice oa i cq) (cl:=dw (IW T d p)) (sm:=om) (fm:=(xb,aj [.int .u8 ((T.tab k/256:Nat):Int)] 5)::(kb,cI u N r (l-(T.most:Nat)))::(O,cI u N r (pH T d p (i+1)))::j) rfl rfl rfl rfl z5 (by decide) rfl rfl hs
   an (k_.of (B:=aj [.int .u8 ((T.tab k/256:Nat):Int)] 5) (by simp) (by show 0+1*(0+1)<=1;decide)) (fun x hx=>by rw[show x=0 from by have h:x<1:=hx;omega];rfl) aa hex rfl ?_
  intro v' om2 F W
  clear W;obtain⟨ad,al,rfl⟩:=bV F;have U:dH 1 (.slice ad (i+1) al) (i+1) (dw (IW T d p)) om2:=bR F fun x hx=>by
   have hx:x<(i+1)*(0+1):=hx
   by_cases bd:x<i
   ·rw[ai aa]
   ·rw[ah aa,show x-i*(0+1)=0 from aa];unfold dw;rw[show x=i from aa,lW];rfl
  refine go ?_;exact⟨⟨i+1,ad,al,om2,(xb,aj [.int .u8 ((T.tab k/256:Nat):Int)] 5)::(kb,cI u N r (l-(T.most:Nat)))::j⟩,by dsimp only;omega,⟨by dsimp only;omega,U⟩,cF,.of_perm an⟩
 ·obtain rfl:i=K:=aa;refine go ?_;refine ac rfl (fun a7=>?_) (fun a3=>?_)
  ·rw[<- hl,ai a7] at y;subst y;refine go ?_;exact af (bx [6,7] rfl)
  ·rw[<- hl,ah a3] at y;subst y;refine go ?_;exact af (ii [6,7] (om) ⟨_,_,rfl,hs⟩)
end Go.Proofs.YtogmacnlpclgkaaGreatDoor
