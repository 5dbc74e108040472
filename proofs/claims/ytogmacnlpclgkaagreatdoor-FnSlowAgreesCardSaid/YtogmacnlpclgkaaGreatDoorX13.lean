/- Texts 13. -/
import Derived.Test.YtogmacnlpclgkaaGreatDoorX12
set_option linter.all false
namespace Go.Proofs.YtogmacnlpclgkaaGreatDoor
open Go Go.Eng
attribute [local irreducible] RO J av aO
set_option maxRecDepth 20000
variable {G:ao} {S:bN G} {dat:Nat->Nat} {N:Nat}
def sj (src:dn S dat N) {E:Type} (dz:E->RX->ao->Prop) (cmp:PS E->Nat->PS E×Bool) (can:PS E->Nat->Prop):Prop :=
 ∀(g:Nat) (p:PS E) (m:ao) (size:Nat),jV src dz g p m->can p size->size<=131072 ->
  av Tryz.prog G 86 #[bf g,.int .i64 size] m (fun v m'=>jV src dz g (cmp p size).1 m'/\((cmp p size).2=true/\v = .nilIface\/(cmp p size).2=false/\jr S v))
section
variable (a:Nat×bk) (s b w e:ao)
theorem pA (t:ao):(s++(b++t)).Perm (b++(s++t)):=by
 rw[<- List.append_assoc,<- List.append_assoc];exact List.perm_append_comm.append_right t
theorem mB:aR (a::(s++(b++(w++e)))) ((a::b)++(s++(w++e))):=.of_perm (List.Perm.cons a (pA s b (w++e)))
theorem mF:aR (a::(s++(b++(w++e)))) ((b++s)++(a::(w++e))) :=
 .of_perm ((List.Perm.cons a ((pA s b (w++e)).trans (by rw[<- List.append_assoc]))).trans List.perm_middle.symm)
theorem mW:aR (a::(s++(b++(w++e)))) ((a::(w++b))++(s++e)) :=
 .of_perm (List.Perm.cons a ((List.Perm.append_left s (pA b w e)).trans ((pA s w (b++e)).trans (by
  show List.Perm _ ((w++b)++(s++e))
  rw[List.append_assoc];exact List.Perm.append_left w (pA s b e)))))
theorem mH:aR (a::(s++(b++(w++e)))) ((a::(s++w))++(b++e)) :=
 .of_perm (List.Perm.cons a (by
  show List.Perm _ ((s++w)++(b++e))
  rw[List.append_assoc];exact List.Perm.append_left s (pA b w e)))
end
theorem Bh (x y:Int) (s:RS):((az x s).st 6 (.int .i64 y)).obj=(az y s).obj:=aW rfl rfl rfl rfl
def o5 (B:bk) (n:Nat) (v:Value):bk:=⟨B.n,fun j=>if j<n then v else B.g j,B.T,B.fr⟩
theorem HO (B:bk) (v:Value):B.obj=(o5 B 0 v).obj:=by
 unfold o5
 simp only[Nat.not_lt_zero,if_false]
theorem Ft (B:bk) (i o:Nat) (v:Value) (h:o=i):((o5 B i v).st o v).obj=(o5 B (i+1) v).obj:=by
 subst h
 congr 1
 unfold o5 bk.st
 congr 1
 funext j
 unfold gK
 rcases hb:j.beq o with _|_
 ·have l:=Nat.ne_of_beq_eq_false hb
  show(if j<o then v else B.g j)=_
  by_cases k:j<o
  ·rw[ai k,ai aa]
  ·rw[ah k,ah aa]
 ·have l:=Nat.eq_of_beq_eq_true hb
  show v=_
  rw[ai aa]
theorem vk {v:Value} {len:Nat} {S:Nat->Nat} {sm:ao} (h:fS v len S sm):∃j k,v = .slice j len k/\∀rest:ao,aU (sm++rest) j len k S:=by
 rcases h with⟨rfl,rfl,rfl,_⟩|⟨b,cap,B,rfl,rfl,_,l,g,hg,_⟩
 ·exact⟨none,0,rfl,fun _=>⟨aZ _,.inl ⟨rfl,rfl,rfl⟩⟩⟩
 ·exact⟨_,cap,rfl,fun _=>⟨g,.inr ⟨b,0,B,rfl,by simp,fun _=>aa,fun i hi=>by rw[Nat.zero_add];exact hg i aa⟩⟩⟩
theorem JZ (x:Int) (s:RS):((az x s).st 1 (.bool false)).obj=(az x (s.wSaw false)).obj:=aW rfl rfl rfl rfl
theorem Jg (x y:Int) (s:RS):(((az x s).st 6 (.int .i64 y)).st 1 (.bool false)).obj=(az y (s.wSaw false)).obj:=aW rfl rfl rfl rfl
theorem HP (S:bN G) (h:Nat) (x:Int) (s:RS) (off:Int) (b:Nat) (str:ByteArray):av Tryz.prog G 76 #[bf h,.int .i64 off,.iface 183 (bf b)] ((h,az x s)::[(b,aj [.string str] 185)])
  (fun v m=>dM S .z v/\m=(h,az x s)::[(b,aj [.string str] 185)]) :=
 gM G S h (az x s) x off (by show 6<83;decide) rfl b 0 _ _ (by simp;exact .inl rfl) rfl fun g=>by
  left
  intro i;simp only[List.cons_append,List.nil_append,List.map_cons,List.nodup_cons,List.mem_cons,List.mem_map] at g
  exact g.2.1 ⟨_,S.e1,i.symm⟩
set_option maxHeartbeats 1000000 in
theorem Jh (src:dn S dat N) (hd:∀i,dat i<256) {E:Type} (dz:E->RX->ao->Prop) (j:Nat) (p:PS E) (m:ao) (hm:jV src dz j p m) (hN:N<=2^62) (last:Bool) (k:Nat) (bu:k<=2^20) (R:Value->ao->Prop)
  (hR:∀v m',jV src dz j (cO dat N last p).1 m'->((cO dat N last p).2=true/\v = .nilIface\/(cO dat N last p).2=false/\dM S .z v)->R v m') (c:World) (h0:dx) (hex:h0.ex=false) (f:Fr) :
  J Tryz.prog G c Tryz.f68.ntmps h0 (m8 10 (uR Tryz.f68.body)) (Eng.Ends Tryz.prog G c Tryz.f68 h0 R)
    (lh f [(0,bf j),(3,ay k),(7,.bool last)]) m:=by
 obtain⟨x,s,Y,C,K,em,rfl,dE,F,a3,H,bs,a2,U,I,M,hb,hw,hx,u⟩:=hm
 have bv:=src.le Y dE
 obtain⟨B,y,a4,a6⟩:=vk hb
 obtain⟨s,rfl⟩:∃s':RS,s=(s'.wRv (.iface src.t src.rv)).wBuf (.slice B p.bl y):=⟨s,by cases s;simp only at a3 a4;rw[a3,a4]⟩
 clear a3 a4
 obtain⟨f1,f2,f3,f4,f5,f6,f7⟩:=bs
 change s.saw=p.saw at f1
 change s.sum=p.sum at f2
 change s.one=p.one at f3
 change s.unk=p.unk at f4
 change s.rem=p.rem at f5
 change s.off=p.off at f6
 change s.wsz=p.wsz at f7
 change ∀i,s.scr i<256 at H
 have bt:p.rem<2^64:=by rw[<- jb];exact a2
 refine go ?_
 refine bp (σ:=Nat) [] (fun _=>[(0,bf j),(3,ay k),(7,.bool last)]) (fun r=>(j,az x (((s.wRv (.iface src.t src.rv)).wBuf (.slice B p.bl y)).wRem r))::(src.mem Y++(C++(K++em))))
  (fun r=>r=(if p.unk then p.rem else p.rem-p.bl)/\¬(p.unk=false/\p.rem<p.bl)) ?_ ?_
 ·refine ei rfl (fun hu=>?_) (fun hu=>?_)
  ·have g:p.unk=false:=by rw[<- f4];simpa using hu
   refine go ?_;refine ac rfl (fun b2=>?_) (fun a9=>?_)
   ·have q:cO dat N last p=(p,false):=by unfold cO;rw[ai ⟨g,aa⟩]
    refine go ?_;refine ae (c_ S j x _ _ _) ?_
    rintro v m ⟨⟨b',rfl⟩,rfl⟩;refine go ?_;refine af ?_;refine ag [2] (post:=(j,az x ((s.wRv (.iface src.t src.rv)).wBuf (.slice B p.bl y)))::(src.mem Y++(C++(K++em)))) (junk:=[]) (hR _ _ ?_ (.inr ⟨by rw[q],b',rfl⟩)) rfl gX
    rw[q];exact⟨x,_,Y,C,K,em,rfl,dE,F,rfl,H,⟨f1,f2,f3,f4,f5,f6,f7⟩,a2,U,I,M,hb,hw,fun h=>⟨(hx h).len,(hx h).acc,(hx h).cnt,(hx h).buf,(hx h).byte⟩,u⟩
   ·refine go ?_;refine⟨p.rem-p.bl,⟨by rw[g,ah (by decide)],aa⟩,cF,.cons ?_ (.refl _)⟩
    rw[<- f5];exact C4 _ _ _
  ·have g:p.unk=true:=by rw[<- f4];simpa using hu
   refine go ?_;exact⟨p.rem,⟨by rw[g,ai rfl],by rw[g];simp⟩,cF,.cons (by rw[<- f5]) (.refl _)⟩
 rintro r f ⟨hr,bo⟩
 have al:r<dR:=by rw[hr];split<;>omega
 refine go ?_
 refine bp (σ:=RS) [] (fun _=>[(0,bf j),(3,ay k),(7,.bool last)]) (fun t=>(j,az x t)::(src.mem Y++(C++(K++em))))
  (fun t=>(∃l v b n,t=(((s.wRv (.iface src.t src.rv)).wBuf (.slice B p.bl y)).wRem r).wChk l v b n)/\(p.sum=true->yr t (cB p.XT p.XN p.S) (p.XN+p.bl))) ?_ ?_
 ·refine ei rfl (fun hu=>?_) (fun hu=>?_)
  ·have g:p.sum=true:=by rw[<- f2];simpa using hu
   have am:=hx g
   refine go ?_;refine ae (HK j x (((s.wRv (.iface src.t src.rv)).wBuf (.slice B p.bl y)).wRem r) p.XT p.S p.XN p.bl y B C ⟨am.len,am.acc,am.cnt,am.buf,am.byte⟩ (by simpa using a6 []) U I) ?_ (hs:=mB _ _ _ _ _)
   rintro v m ⟨l,W,b1,n1,ax,rfl⟩;refine cA (mB _ _ _ _ _).symm (fun _ ⟨s,hi,hs,he⟩=>⟨s,hi,hs,(mB _ _ _ _ _).symm.trans he⟩) ?_
   refine go ?_;exact⟨_,⟨⟨l,W,b1,n1,rfl⟩,fun _=>ax⟩,cF,.refl _⟩
  ·have g:p.sum=false:=by rw[<- f2];simpa using hu
   refine go ?_;exact⟨_,⟨⟨s.xl,s.xv,s.xb,s.xc,rfl⟩,fun h=>by rw[g] at h;exact absurd h (by decide)⟩,cF,.refl _⟩
 rintro t f ⟨⟨l,W,b1,n1,rfl⟩,ax⟩
 clear hx
 have q:cO dat N last p=(if last=false then({ p with rem:=r,XT:=if p.sum then cB p.XT p.XN p.S else p.XT,XN:=if p.sum then p.XN+p.bl else p.XN,L:=l_ p.wsz p.wl p.L p.bl p.S,wl:=min p.wsz (p.wl+p.bl) },true)
   else if p.unk=false/\r≠0 then({ p with rem:=r,XT:=if p.sum then cB p.XT p.XN p.S else p.XT,XN:=if p.sum then p.XN+p.bl else p.XN },false)
   else if p.sum=false then({ p with rem:=r,XT:=if p.sum then cB p.XT p.XN p.S else p.XT,XN:=if p.sum then p.XN+p.bl else p.XN,saw:=false },true)
   else if N-p.pos<4 then({ p with rem:=r,XT:=if p.sum then cB p.XT p.XN p.S else p.XT,XN:=if p.sum then p.XN+p.bl else p.XN,pos:=N },false)
   else if eX (fun i=>dat (p.pos+i))=gw (if p.sum then cB p.XT p.XN p.S else p.XT) (if p.sum then p.XN+p.bl else p.XN)%4294967296 then({ p with rem:=r,XT:=if p.sum then cB p.XT p.XN p.S else p.XT,XN:=if p.sum then p.XN+p.bl else p.XN,pos:=p.pos+4,saw:=false },true)
   else({ p with rem:=r,XT:=if p.sum then cB p.XT p.XN p.S else p.XT,XN:=if p.sum then p.XN+p.bl else p.XN,pos:=p.pos+4 },false)):=by
  unfold cO;rw[ah bo,hr]
 have hX:p.sum=true->yr ((((s.wRv (.iface src.t src.rv)).wBuf (.slice B p.bl y)).wRem r).wChk l W b1 n1) (if p.sum then cB p.XT p.XN p.S else p.XT) (if p.sum then p.XN+p.bl else p.XN):=fun h=>by
  rw[ai h,ai h];exact ax h
 clear ax
 generalize (if p.sum then cB p.XT p.XN p.S else p.XT)=XT at q hX
 generalize (if p.sum then p.XN+p.bl else p.XN)=XN at q hX
 refine go ?_
 refine bp (σ:=ao) [] (fun _=>[]) (fun m=>m) (fun m=>jV src dz j (cO dat N last p).1 m/\(cO dat N last p).2=true) ?_ ?_
 ·refine ei rfl (fun hl=>?_) (fun hl=>?_)
  ·have a7:last=false:=by simpa using hl
   rw[ai a7] at q;refine go ?_;refine ae (HE j x ((((s.wRv (.iface src.t src.rv)).wBuf (.slice B p.bl y)).wRem r).wChk l W b1 n1) p.wl p.bl p.L p.S K C (.slice B p.bl y) (by show nF s.wd s.wsz s.wo p.L p.wl K;rw[f7];exact hw) hb (by show s.wsz<=2^30;rw[f7];exact M) I) ?_ (hs:=mW _ _ _ _ _)
   rintro v m ⟨bq,bb,ba,a5,rfl⟩;refine cA (mW _ _ _ _ _).symm (fun _ ⟨s,hi,hs,he⟩=>⟨s,hi,hs,(mW _ _ _ _ _).symm.trans he⟩) ?_
   refine go ?_;refine⟨_,⟨?_,by rw[q]⟩,trivial,.refl _⟩
   rw[q]
   change nF bq s.wsz bb (l_ s.wsz p.wl p.L p.bl p.S) (min s.wsz (p.wl+p.bl)) ba at a5
   rw[f7] at a5;exact⟨x,_,Y,C,ba,em,rfl,dE,F,rfl,H,⟨f1,f2,f3,f4,rfl,f6,f7⟩,al,U,I,M,hb,a5,fun h=>⟨(hX h).len,(hX h).acc,(hX h).cnt,(hX h).buf,(hX h).byte⟩,u⟩
  ·have a7:¬last=false:=by simpa using hl
   rw[ah a7] at q;refine dk ?_;refine bp (σ:=Unit) [] (fun _=>[(0,bf j),(3,ay k)]) (fun _=>((j,az x ((((s.wRv (.iface src.t src.rv)).wBuf (.slice B p.bl y)).wRem r).wChk l W b1 n1))::(src.mem Y++(C++(K++em))))) (fun _=>¬(p.unk=false/\r≠0)) ?_ ?_
   ·refine dk ?_;refine r_ [] [(0,bf j),(3,ay k),(277,.bool (decide (p.unk=false/\r≠0)))] ((j,az x ((((s.wRv (.iface src.t src.rv)).wBuf (.slice B p.bl y)).wRem r).wChk l W b1 n1))::(src.mem Y++(C++(K++em)))) ?_ ?_
    ·refine go ?_;refine wg 271 rfl (fun hu=>?_) (fun hu=>?_)
     ·have g:p.unk=false:=by rw[<- f4];simpa using hu
      refine go ?_;refine⟨⟨rfl,rfl,?_,trivial⟩,.refl _⟩
      show Value.bool _=Value.bool _
      congr 1
      rw[decide_eq_decide]
      constructor
      ·intro h;exact⟨g,aa⟩
      ·intro h;omega
     ·have g:p.unk=true:=by rw[<- f4];simpa using hu
      refine go ?_;refine⟨⟨rfl,rfl,?_,trivial⟩,.refl _⟩
      show Value.bool false=Value.bool _
      congr 1
      symm
      rw[decide_eq_false_iff_not,g];simp
    intro f;refine ac rfl (fun a8=>?_) (fun ab=>?_)
    ·rw[ai a8] at q;refine go ?_;refine ae (c_ S j x _ _ _) ?_
     rintro v m ⟨⟨b',rfl⟩,rfl⟩;refine go ?_;refine af ?_;refine ag [2] (post:=((j,az x ((((s.wRv (.iface src.t src.rv)).wBuf (.slice B p.bl y)).wRem r).wChk l W b1 n1))::(src.mem Y++(C++(K++em))))) (junk:=[]) (hR _ _ ?_ (.inr ⟨by rw[q],b',rfl⟩)) rfl gX
     rw[q];exact⟨x,_,Y,C,K,em,rfl,dE,F,rfl,H,⟨f1,f2,f3,f4,rfl,f6,f7⟩,al,U,I,M,hb,hw,fun h=>⟨(hX h).len,(hX h).acc,(hX h).cnt,(hX h).buf,(hX h).byte⟩,u⟩
    ·refine fW ?_;exact⟨(),ab,cF,.refl _⟩
   rintro _ f ab;rw[ah ab] at q;refine go ?_;refine ei rfl (fun hu=>?_) (fun hu=>?_)
   ·have g:p.sum=true:=by rw[<- f2];simpa using hu
    have aw:=hX g
    rw[ah (by rw[g];decide)] at q
    refine go ?_;refine ae (kg src Y j x ((((s.wRv (.iface src.t src.rv)).wBuf (.slice B p.bl y)).wRem r).wChk l W b1 n1) 4 dE aa) ?_
    rintro v m ⟨q2,k2,g1,g2,g3,rfl,rfl⟩;have V:∀i,ov s.scr k2 dat (src.pos Y) i<256:=nO H hd _ _
    have ad:4<=k2->∀i,i<4->ov s.scr k2 dat (src.pos Y) i=dat (p.pos+i):=fun h i hi=>by unfold ov;rw[ai aa,F]
    rw[F] at g2 g3
    change RO Tryz.prog G _ _ _ _ _ _ _ _ ((j,az x (((((s.wRv (.iface src.t src.rv)).wBuf (.slice B p.bl y)).wRem r).wChk l W b1 n1).wScr (ov s.scr k2 dat (src.pos Y))))::(src.mem q2++(C++(K++em))))
    generalize ov s.scr k2 dat (src.pos Y)=scr at ad V ⊢;have O:yr (((((s.wRv (.iface src.t src.rv)).wBuf (.slice B p.bl y)).wRem r).wChk l W b1 n1).wScr scr) XT XN:=⟨aw.len,aw.acc,aw.cnt,aw.buf,aw.byte⟩
    by_cases h4:4<=k2
    ·rw[eE h4];have ad:=ad h4
     have a9:eX (fun i=>scr (0+i))=eX (fun i=>dat (p.pos+i)):=by
      unfold eX;simp only[Nat.zero_add];rw[ad 0 aa,ad 1 aa,ad 2 aa,ad 3 aa]
     rw[ah aa] at q;refine go ?_;refine aA (my G _ j 28 4 16 _ _ (jF j x _ (by simp;exact .inl rfl) 0 4 aa V) aa) ?_
     rw[a9];refine go ?_;refine ae (HN j x (((((s.wRv (.iface src.t src.rv)).wBuf (.slice B p.bl y)).wRem r).wChk l W b1 n1).wScr scr) XT XN O) ?_
     rintro v m ⟨rfl,rfl⟩;refine go ?_;have a0:(2:Nat)^IntKind.u32.bits=4294967296:=rfl
     refine ac rfl (fun bc=>?_) (fun be=>?_)
     ·rw[a0] at bc;rw[ah aa] at q;refine go ?_;refine ae (GX G _) ?_
      rintro v m ⟨b,rfl,rfl⟩;refine go ?_;refine ae (HP S j x (((((s.wRv (.iface src.t src.rv)).wBuf (.slice B p.bl y)).wRem r).wChk l W b1 n1).wScr scr) 0 b _) ?_
      rintro v m ⟨⟨b',rfl⟩,rfl⟩;refine go ?_;refine af ?_;refine ag [2] (post:=(j,az x (((((s.wRv (.iface src.t src.rv)).wBuf (.slice B p.bl y)).wRem r).wChk l W b1 n1).wScr scr))::(src.mem q2++(C++(K++em)))) (junk:=[(b,_)]) (hR _ _ ?_ (.inr ⟨by rw[q],b',rfl⟩)) rfl (.of_perm (List.Perm.cons _ List.perm_append_comm))
      rw[q];exact⟨x,_,q2,C,K,em,rfl,g1,by dsimp only;omega,rfl,V,⟨f1,f2,f3,f4,rfl,f6,f7⟩,al,U,I,M,hb,hw,fun _=>O,u⟩
     ·rw[a0] at be;rw[ai aa] at q;refine go ?_;refine dq (op:=.add) rfl rfl rfl rfl ?_
      refine go ?_;refine⟨_,⟨?_,by rw[q]⟩,trivial,.cons (Jg _ _ _) (.refl _)⟩
      rw[q];exact⟨_,_,q2,C,K,em,rfl,g1,by dsimp only;omega,rfl,V,⟨rfl,f2,f3,f4,rfl,f6,f7⟩,al,U,I,M,hb,hw,fun _=>⟨O.len,O.acc,O.cnt,O.buf,O.byte⟩,u⟩
    ·rw[ai aa] at q;have a1:jV src dz j (cO dat N last p).1 ((j,az x (((((s.wRv (.iface src.t src.rv)).wBuf (.slice B p.bl y)).wRem r).wChk l W b1 n1).wScr scr))::(src.mem q2++(C++(K++em)))):=by
      rw[q];exact⟨x,_,q2,C,K,em,rfl,g1,by dsimp only;omega,rfl,V,⟨f1,f2,f3,f4,rfl,f6,f7⟩,al,U,I,M,hb,hw,fun _=>O,u⟩
     by_cases h5:k2=0
     ·rw[eD h4 h5];refine go ?_;refine ae (iO S j x _ _) ?_
      rintro v m ⟨⟨b',rfl⟩,rfl⟩;refine go ?_;exact af (cE [2] ((j,az x (((((s.wRv (.iface src.t src.rv)).wBuf (.slice B p.bl y)).wRem r).wChk l W b1 n1).wScr scr))::(src.mem q2++(C++(K++em)))) (junk:=[]) (hR _ _ a1 (.inr ⟨by rw[q],b',rfl⟩)) gX)
     ·rw[eF h4 h5];refine go ?_;refine ae (lD S j x _ _) ?_
      rintro v m ⟨⟨b',rfl⟩,rfl⟩;refine go ?_;exact af (cE [2] ((j,az x (((((s.wRv (.iface src.t src.rv)).wBuf (.slice B p.bl y)).wRem r).wChk l W b1 n1).wScr scr))::(src.mem q2++(C++(K++em)))) (junk:=[]) (hR _ _ a1 (.inr ⟨by rw[q],b',rfl⟩)) gX)
   ·have g:p.sum=false:=by rw[<- f2];simpa using hu
    rw[ai g] at q;refine go ?_;refine⟨_,⟨?_,by rw[q]⟩,trivial,.cons (JZ _ _) (.refl _)⟩
    rw[q];exact⟨x,_,Y,C,K,em,rfl,dE,F,rfl,H,⟨rfl,f2,f3,f4,rfl,f6,f7⟩,al,U,I,M,hb,hw,fun h=>absurd (h.symm.trans g) (by decide),u⟩
 ·rintro m f ⟨br,bd⟩;refine go ?_;exact af (cE [2] (m) (junk:=[]) (hR _ _ br (.inl ⟨bd,rfl⟩)) gX)
set_option maxHeartbeats 1000000 in
theorem Ji (src:dn S dat N) (hd:∀i,dat i<256) {E:Type} (dz:E->RX->ao->Prop) (cmp:PS E->Nat->PS E×Bool) (can:PS E->Nat->Prop) (bs:sj src dz cmp can) (j:Nat) (p:PS E) (hN:N<=2^62)
  (x:Int) (s:RS) (K:src.σ) (bm u em:ao) (h1:src.ok K) (ad:src.pos K=p.pos+3) (F:∀i,s.scr i<256) (O:s.saw=p.saw/\s.sum=p.sum/\s.one=p.one/\s.unk=p.unk/\s.rem=p.rem/\s.off=p.off/\s.wsz=p.wsz) (q:p.rem<dR) (ab:∀i,p.S i<256) (ba:p.bl<=2^30) (I:p.wsz<=2^30)
  (hb:fS s.buf p.bl p.S bm) (hw:nF s.wd p.wsz s.wo p.L p.wl u) (hx:p.sum=true->yr s p.XT p.XN) (r:dz p.e s.ext em) (h:Nat) (hh:dB dat p.pos=h) (b9:h<16777216) (ca:3<=N-p.pos)
  (ax:h/2%4=2->can { p with pos:=p.pos+3 } (h/8)) (b4:h/8<=131072) (cb:0<p.wsz->h/8<=p.wsz) (c:World) (h0:dx) (hex:h0.ex=false) (f:Fr) :
  J Tryz.prog G c Tryz.f68.ntmps h0 (m8 9 (uR Tryz.f68.body)) (Eng.Ends Tryz.prog G c Tryz.f68 h0 fun v m'=>jV src dz j (cD dat N cmp p).1 m'/\((cD dat N cmp p).2=true/\v = .nilIface\/(cD dat N cmp p).2=false/\jr S v))
    (lh f [(0,bf j),(3,.int .i64 3),(7,.bool (decide (((h%2:Nat):Int)≠0))),(8,.int .u32 ((h/2%4:Nat):Int)),(9,.int .i64 ((h/8:Nat):Int))]) ((j,az x (s.wRv (.iface src.t src.rv)))::(src.mem K++(bm++(u++em)))):=by
 refine dk ?_
 refine bp (σ:=PS E×ao×Nat) [] (fun t=>[(0,bf j),(3,ay t.2.2),(7,.bool (decide (((h%2:Nat):Int)≠0)))]) (fun t=>t.2.1)
  (fun t=>jV src dz j t.1 t.2.1/\t.2.2<=2^20/\cD dat N cmp p=cO dat N (decide (h%2≠0)) t.1) ?_ ?_
 ·refine go ?_;refine ac rfl (fun b2=>?_) (fun b2=>?_)
  ·have ht:h/2%4=0:=aa
   refine go ?_;refine ae (wU j x (s.wRv (.iface src.t src.rv)) p.bl (h/8) p.S bm hb aa) ?_ (hs:=mB _ _ _ _ _)
   rintro v m ⟨l,Y,am,rfl⟩;refine cA (mB _ _ _ _ _).symm (fun _ h=>bZ (mB _ _ _ _ _).symm h) ?_
   refine go ?_;refine ae (zP src K l (h/8) p.S Y h1 am aa) ?_ (hs:=mF _ _ _ _ _)
   rintro v m ⟨C,k,z,g1,g2,g3,g4,rfl,rfl⟩;refine cA (mF _ _ _ _ _).symm (fun _ h=>bZ (mF _ _ _ _ _).symm h) ?_
   have ad:src.pos K=p.pos+3:=aa
   rw[ad] at g2 g3 g4;have bq:=nO (g:=p.S) ab hd k (p.pos+3)
   by_cases h4:h/8<=k
   ·rw[eE h4];refine go ?_;refine dq (op:=.add) rfl rfl rfl rfl ?_
    refine go ?_;have U:cD dat N cmp p=cO dat N (decide (h%2≠0)) { p with pos:=p.pos+3+k,S:=ov p.S k dat (p.pos+3),bl:=h/8 }:=by
     unfold cD;rw[ah aa];dsimp only;rw[hh,ah aa,ai ht,<- g2,ah aa]
    refine⟨({ p with pos:=p.pos+3+k,S:=ov p.S k dat (p.pos+3),bl:=h/8 },(j,az _ ((s.wRv (.iface src.t src.rv)).wBuf l))::(src.mem C++(z++(u++em))),3+h/8),⟨?_,by dsimp only;omega,U⟩,cF,.cons (Bh _ _ _) (.refl _)⟩
    exact⟨_,_,C,z,u,em,rfl,g1,g3,rfl,F,O,q,bq,by dsimp only;omega,I,g4,hw,fun h=>⟨(hx h).len,(hx h).acc,(hx h).cnt,(hx h).buf,(hx h).byte⟩,r⟩
   ·have U:cD dat N cmp p=({ p with pos:=p.pos+3+k,S:=ov p.S k dat (p.pos+3),bl:=h/8 },false):=by
     unfold cD;rw[ah aa];dsimp only;rw[hh,ah aa,ai ht,<- g2,ai aa]
    have aw:jV src dz j (cD dat N cmp p).1 ((j,az x ((s.wRv (.iface src.t src.rv)).wBuf l))::(src.mem C++(z++(u++em)))):=by
     rw[U];exact⟨_,_,C,z,u,em,rfl,g1,g3,rfl,F,O,q,bq,by dsimp only;omega,I,g4,hw,fun h=>⟨(hx h).len,(hx h).acc,(hx h).cnt,(hx h).buf,(hx h).byte⟩,r⟩
    by_cases h5:k=0
    ·rw[eD h4 h5];refine go ?_;refine ae (iO S j x _ _) ?_
     rintro v m ⟨⟨b',rfl⟩,rfl⟩;refine go ?_;refine af ?_;refine ag [2] (post:=(j,az x _)::(src.mem C++(z++(u++em)))) (junk:=[]) ⟨aw,.inr ⟨by rw[U],.inl ⟨b',rfl⟩⟩⟩ rfl gX
    ·rw[eF h4 h5];refine go ?_;refine ae (lD S j x _ _) ?_
     rintro v m ⟨⟨b',rfl⟩,rfl⟩;refine go ?_;refine af ?_;refine ag [2] (post:=(j,az x _)::(src.mem C++(z++(u++em)))) (junk:=[]) ⟨aw,.inr ⟨by rw[U],.inl ⟨b',rfl⟩⟩⟩ rfl gX
  ·refine go ?_;refine ac rfl (fun bv=>?_) (fun bv=>?_)
   ·have ht:h/2%4=1:=aa
    refine go ?_;refine ae (wU j x (s.wRv (.iface src.t src.rv)) p.bl (h/8) p.S bm hb aa) ?_ (hs:=mB _ _ _ _ _)
    rintro v m ⟨l,Y,am,rfl⟩;refine cA (mB _ _ _ _ _).symm (fun _ h=>bZ (mB _ _ _ _ _).symm h) ?_
    refine go ?_;refine ae (kg src K j x ((s.wRv (.iface src.t src.rv)).wBuf l) 1 h1 aa) ?_
    rintro v m ⟨C,k,g1,g2,g3,rfl,rfl⟩;have V:∀i,ov s.scr k dat (src.pos K) i<256:=nO F hd _ _
    by_cases h4:1<=k
    ·rw[eE h4];obtain rfl:k=1:=aa;have br:ov s.scr 1 dat (src.pos K) 0=dat (p.pos+3):=by rw[ad];rfl
     change RO Tryz.prog G _ _ _ _ _ _ _ _ ((j,az x (((s.wRv (.iface src.t src.rv)).wBuf l).wScr (ov s.scr 1 dat (src.pos K))))::(src.mem C++(Y++(u++em))))
     generalize ov s.scr 1 dat (src.pos K)=scr at br V ⊢;have U:cD dat N cmp p=cO dat N (decide (h%2≠0)) { p with pos:=p.pos+3+1,S:=fun i=>if i<h/8 then dat (p.pos+3) else p.S i,bl:=h/8 }:=by
      unfold cD;rw[ah aa];dsimp only;rw[hh,ah aa,ah aa,ai ht,ah aa]
     have bb:∀i,(if i<h/8 then dat (p.pos+3) else p.S i)<256:=fun i=>by split;exact hd _;exact ab _
     rcases am with⟨rfl,hz,rfl,a0⟩|⟨b,cap,B,rfl,rfl,hf,hn,b7,hg,a0⟩
     ·rw[hz];refine go ?_;refine aH (σ:=Unit) [0,3,7,163,164] (fun _=>[]) (fun _=>_) (fun _=>True) (fun _=>0) () (.refl _) trivial ?_
      rintro _ f _;refine go ?_;refine ac rfl (fun be=>absurd be aa) (fun _=>?_)
      refine go ?_;refine dq (op:=.add) rfl rfl rfl rfl ?_
      refine go ?_;refine⟨({ p with pos:=p.pos+3+1,S:=fun i=>if i<h/8 then dat (p.pos+3) else p.S i,bl:=h/8 },(j,az _ (((s.wRv (.iface src.t src.rv)).wBuf (.slice none 0 0)).wScr scr))::(src.mem C++([]++(u++em))),4),⟨?_,by dsimp only;omega,U⟩,cF,.cons (Bh _ _ _) (.refl _)⟩
      refine⟨_,_,C,[],u,em,rfl,g1,by dsimp only;omega,rfl,V,O,q,bb,by dsimp only;omega,I,.inl ⟨rfl,hz,rfl,fun i=>?_⟩,hw,fun h=>⟨(hx h).len,(hx h).acc,(hx h).cnt,(hx h).buf,(hx h).byte⟩,r⟩
      rw[<- a0 i];show Value.int .u8 ((if i<h/8 then dat (p.pos+3) else p.S i:Nat):Int)=dw p.S i
      rw[ah aa];rfl
     ·refine cA (mB _ _ _ _ _) (fun _ h=>bZ (mB _ _ _ _ _) h) ?_
      refine go ?_;refine aH (σ:=Nat) [0,3,7,14,163] (fun i=>[(164,.int .i64 i)]) (fun i=>(j,az x (((s.wRv (.iface src.t src.rv)).wBuf (.slice (bi b) (h/8) cap)).wScr scr))::(b,o5 B i (.int .u8 (scr 0:Nat)))::(src.mem C++(u++em))) (fun i=>i<=h/8) (fun i=>h/8-i) 0 (.skip (.cons (HO _ _) (.refl _))) (Nat.zero_le _) ?_
      intro i f hi;refine go ?_;refine ac rfl (fun be=>?_) (fun cc=>?_)
      ·refine go ?_;refine bD rfl rfl rfl rfl (.there .here) (by show _<B.n;omega) hf hex ?_
       refine go ?_;exact⟨i+1,aa,aa,cF,.skip (.cons (Ft _ _ _ _ aa) (.refl _))⟩
      ·obtain rfl:i=h/8:=aa;refine go ?_;refine dq (op:=.add) rfl rfl rfl rfl ?_
       refine go ?_;refine⟨({ p with pos:=p.pos+3+1,S:=fun i=>if i<h/8 then dat (p.pos+3) else p.S i,bl:=h/8 },(j,az _ (((s.wRv (.iface src.t src.rv)).wBuf (.slice (bi b) (h/8) cap)).wScr scr))::(src.mem C++([(b,o5 B (h/8) (.int .u8 (scr 0:Nat)))]++(u++em))),4),⟨?_,by dsimp only;omega,U⟩,cF,aR.trans (.cons (Bh _ _ _) (.refl _)) (mB _ _ [(b,o5 B (h/8) (.int .u8 (scr 0:Nat)))] _ _).symm⟩
       refine⟨_,_,C,[(b,o5 B (h/8) (.int .u8 (scr 0:Nat)))],u,em,rfl,g1,by dsimp only;omega,rfl,V,O,q,bb,by dsimp only;omega,I,.inr ⟨b,cap,_,rfl,rfl,hf,hn,b7,fun i hi=>?_,fun i hi=>?_⟩,hw,fun h=>⟨(hx h).len,(hx h).acc,(hx h).cnt,(hx h).buf,(hx h).byte⟩,r⟩
       ·show(if i<h/8 then Value.int .u8 (scr 0:Nat) else B.g i)=Value.int .u8 ((if i<h/8 then dat (p.pos+3) else p.S i:Nat):Int)
        by_cases al:i<h/8
        ·rw[ai al,ai al,br]
        ·rw[ah al,ah al,hg i hi];rfl
       ·rw[<- a0 i hi];show Value.int .u8 ((if i<h/8 then dat (p.pos+3) else p.S i:Nat):Int)=dw p.S i
        rw[ah aa];rfl
    ·obtain rfl:k=0:=aa;rw[eD h4 rfl];have U:cD dat N cmp p=({ p with pos:=p.pos+3,bl:=h/8 },false):=by
      unfold cD;rw[ah aa];dsimp only;rw[hh,ah aa,ah aa,ai ht,ai aa]
     refine go ?_;refine ae (iO S j x _ _) ?_
     rintro v m ⟨⟨b',rfl⟩,rfl⟩;refine go ?_;refine af ?_;refine ag [2] (post:=(j,az x (((s.wRv (.iface src.t src.rv)).wBuf l).wScr (ov s.scr 0 dat (src.pos K))))::(src.mem C++(Y++(u++em)))) (junk:=[]) ⟨?_,.inr ⟨by rw[U],.inl ⟨b',rfl⟩⟩⟩ rfl gX
     rw[U];exact⟨_,_,C,Y,u,em,rfl,g1,by dsimp only;omega,rfl,V,O,q,ab,by dsimp only;omega,I,am,hw,fun h=>⟨(hx h).len,(hx h).acc,(hx h).cnt,(hx h).buf,(hx h).byte⟩,r⟩
   ·refine go ?_;refine ac rfl (fun b1=>?_) (fun b1=>?_)
    ·have ht:h/2%4=2:=aa
     refine go ?_;refine dq (op:=.add) rfl rfl rfl rfl ?_
     refine go ?_;refine cA (.cons (Bh _ _ _) (.refl _)) (fun _ h=>bZ (.cons (Bh _ _ _) (.refl _)) h) ?_
     have b5:∀y,jV src dz j { p with pos:=p.pos+3 } ((j,az y (s.wRv (.iface src.t src.rv)))::(src.mem K++(bm++(u++em)))):=fun y =>
      ⟨y,_,K,bm,u,em,rfl,h1,ad,rfl,F,O,q,ab,ba,I,hb,hw,fun h=>⟨(hx h).len,(hx h).acc,(hx h).cnt,(hx h).buf,(hx h).byte⟩,r⟩
     have H:cD dat N cmp p=(if(cmp { p with pos:=p.pos+3 } (h/8)).2 then cO dat N (decide (h%2≠0)) (cmp { p with pos:=p.pos+3 } (h/8)).1 else cmp { p with pos:=p.pos+3 } (h/8)):=by
      unfold cD;rw[ah aa];dsimp only;rw[hh,ah aa,ah aa,ah aa,ai ht]
     refine ae (bs j _ _ (h/8) (b5 _) (ax ht) b4) ?_ (fm:=[]) (hs:=by rw[List.append_nil];exact .refl _)
     rintro v m ⟨M,hv⟩;rw[List.append_nil];rcases hv with⟨W,rfl⟩|⟨W,⟨b',rfl⟩|rfl⟩
     ·rw[W,ai rfl] at H;have cd:=M
      obtain⟨x2,s2,C,z,bt,bc,rfl,a1,a2,a3,a4,a5,a6,a7,a8,a9,bu,b6,b3,b8⟩:=M;refine go ?_;refine dq (op:=.add) rfl rfl rfl rfl ?_
      refine go ?_;exact⟨((cmp { p with pos:=p.pos+3 } (h/8)).1,(j,az _ s2)::(src.mem C++(z++(bt++bc))),3),⟨⟨_,s2,C,z,bt,bc,rfl,a1,a2,a3,a4,a5,a6,a7,a8,a9,bu,b6,b3,b8⟩,by dsimp only;omega,H⟩,cF,.cons (Bh _ _ _) (.refl _)⟩
     ·rw[W,ah (by decide)] at H
      refine go ?_;exact af (cE [2] (m) (junk:=[]) ⟨by rw[H];exact M,.inr ⟨by rw[H];exact W,.inl ⟨b',rfl⟩⟩⟩ gX)
     ·rw[W,ah (by decide)] at H
      unfold bN.ueofV
      refine go ?_;exact af (cE [2] (m) (junk:=[]) ⟨by rw[H];exact M,.inr ⟨by rw[H];exact W,.inr rfl⟩⟩ gX)
    ·refine go ?_;refine ac rfl (fun bd=>?_) (fun bd=>absurd bd aa)
     refine go ?_;refine ae (c_ S j x _ _ _) ?_
     rintro v m ⟨⟨b',rfl⟩,rfl⟩;refine go ?_;refine af ?_;have U:cD dat N cmp p=({ p with pos:=p.pos+3 },false):=by
      unfold cD;rw[ah aa];dsimp only;rw[hh,ah aa,ah aa,ah aa,ah aa]
     refine ag [2] (post:=(j,az x (s.wRv (.iface src.t src.rv)))::(src.mem K++(bm++(u++em)))) (junk:=[]) ⟨?_,.inr ⟨by rw[U],.inl ⟨b',rfl⟩⟩⟩ rfl gX
     rw[U];exact⟨x,_,K,bm,u,em,rfl,h1,ad,rfl,F,O,q,ab,ba,I,hb,hw,fun h=>⟨(hx h).len,(hx h).acc,(hx h).cnt,(hx h).buf,(hx h).byte⟩,r⟩
 ·rintro⟨p2,m2,k2⟩ f ⟨M,bo,hE⟩;dsimp only at M bo hE ⊢;rw[hE,show decide (((h%2:Nat):Int)≠0)=decide (h%2≠0) by rw[decide_eq_decide];omega]
  exact Jh src hd dz j p2 m2 M hN (decide (h%2≠0)) k2 bo (fun v m'=>jV src dz j (cO dat N (decide (h%2≠0)) p2).1 m'/\((cO dat N (decide (h%2≠0)) p2).2=true/\v = .nilIface\/(cO dat N (decide (h%2≠0)) p2).2=false/\jr S v)) (fun v m' a b=>⟨a,b.imp id fun b=>⟨b.1,.inl b.2⟩⟩) c h0 hex f
set_option maxHeartbeats 2000000 in
theorem HQ (src:dn S dat N) (hd:∀i,dat i<256) {E:Type} (dz:E->RX->ao->Prop) (cmp:PS E->Nat->PS E×Bool) (can:PS E->Nat->Prop) (ab:sj src dz cmp can) (j:Nat) (p:PS E) (m:ao) (hm:jV src dz j p m) (hN:N<=2^62)
  (V:3<=N-p.pos->dB dat p.pos/2%4=2->can { p with pos:=p.pos+3 } (dB dat p.pos/8)) :
  av Tryz.prog G 68 #[bf j] m (fun v m'=>jV src dz j (cD dat N cmp p).1 m'/\((cD dat N cmp p).2=true/\v = .nilIface\/(cD dat N cmp p).2=false/\jr S v)):=by
 obtain⟨x,s,u,F,C,em,rfl,dE,y,ad,Y,z,l,K,I,H,hb,hw,hx,q⟩:=hm
 refine bE Tryz.func68 fun c h0 hex=>?_
 have a2:=src.le u dE
 rw[<- s.wRv_self,ad]
 refine go ?_
 refine ae (kg src u j x (s.wRv (.iface src.t src.rv)) 3 dE aa) ?_
 rintro v m ⟨r,k,h1,h2,h3,rfl,rfl⟩
 have g:∀i,ov s.scr k dat (src.pos u) i<256:=fun i=>by unfold ov;split;exact hd _;exact Y _
 by_cases h4:3<=k
 ·rw[eE h4];obtain rfl:k=3:=aa;have al:ov s.scr 3 dat (src.pos u) 0=dat p.pos:=by rw[y];rfl
  have aw:ov s.scr 3 dat (src.pos u) 1=dat (p.pos+1):=by rw[y];rfl
  have ax:ov s.scr 3 dat (src.pos u) 2=dat (p.pos+2):=by rw[y];rfl
  change RO Tryz.prog G _ _ _ _ _ _ _ _ ((j,az x ((s.wRv (.iface src.t src.rv)).wScr (ov s.scr 3 dat (src.pos u))))::src.mem r++_)
  generalize ov s.scr 3 dat (src.pos u)=scr at al aw ax g ⊢;have b0:=g 0;have b1:=g 1;have b2:=g 2
  refine go ?_;refine nX 8 rfl rfl aa aa aa aa rfl (by show _<(2:Int)^32;omega) rfl ?_
  refine go ?_;refine nX 16 rfl rfl aa aa aa aa rfl (by show _<(2:Int)^32;omega) rfl ?_
  have he:((scr 0:Nat):Int)+((scr 1*2^8:Nat):Int)+((scr 2*2^16:Nat):Int)=((dB dat p.pos:Nat):Int):=by unfold dB;omega
  rw[he];clear he;have U:dB dat p.pos<16777216:=by
   have:=hd p.pos;have:=hd (p.pos+1);have:=hd (p.pos+2);unfold dB;omega
  have B:=V aa
  generalize hh:dB dat p.pos=h at U B ⊢;have key:∀f,h/8<=131072->(0<s.wsz->h/8<=s.wsz)->J Tryz.prog G c Tryz.f68.ntmps h0 (m8 9 (uR Tryz.f68.body)) (Eng.Ends Tryz.prog G c Tryz.f68 h0 fun v m'=>jV src dz j (cD dat N cmp p).1 m'/\((cD dat N cmp p).2=true/\v = .nilIface\/(cD dat N cmp p).2=false/\jr S v))
    (lh f [(0,bf j),(3,.int .i64 3),(7,.bool (decide (((h%2:Nat):Int)≠0))),(8,.int .u32 ((h/2%4:Nat):Int)),(9,.int .i64 ((h/8:Nat):Int))]) ((j,az x ((s.wRv (.iface src.t src.rv)).wScr scr))::(src.mem r++(F++(C++em)))):=by
   intro f am W;rw[z.2.2.2.2.2.2] at W;exact Ji src hd dz cmp can ab j p hN x (s.wScr scr) r F C em h1 aa g z l K I H hb hw (fun h=>⟨(hx h).len,(hx h).acc,(hx h).cnt,(hx h).buf,(hx h).byte⟩) q h hh U aa B am W c h0 hex f
  refine go ?_;rw[show h/2^1=h/2 by rw[Nat.pow_one],show h/2^3=h/8 from rfl]
  refine aJ 74 rfl (fun a1=>?_) (fun a4=>?_)
  ·refine go ?_;refine ae (c_ S j x _ _ _) ?_
   rintro v m ⟨⟨b',rfl⟩,rfl⟩;refine go ?_;refine af ?_;have M:cD dat N cmp p=({ p with pos:=p.pos+3 },false):=by
    unfold cD;rw[ah aa];dsimp only;rw[hh,ai (.inl aa)]
   refine ag [2] (post:=(j,az x ((s.wRv (.iface src.t src.rv)).wScr scr))::(src.mem r++(F++(C++em)))) (junk:=[]) ⟨?_,.inr ⟨by rw[M],.inl ⟨b',rfl⟩⟩⟩ rfl gX
   rw[M];exact⟨x,_,r,F,C,em,rfl,h1,by show src.pos r=p.pos+3;omega,rfl,g,z,l,K,I,H,hb,hw,fun h=>⟨(hx h).len,(hx h).acc,(hx h).cnt,(hx h).buf,(hx h).byte⟩,q⟩
  ·refine go ?_;refine aJ 81 rfl (fun a0=>?_) (fun a0=>?_)
   ·refine go ?_;refine ac rfl (fun a3=>?_) (fun a5=>?_)
    ·refine go ?_;refine ae (c_ S j x _ _ _) ?_
     rintro v m ⟨⟨b',rfl⟩,rfl⟩;refine go ?_;refine af ?_;have M:cD dat N cmp p=({ p with pos:=p.pos+3 },false):=by
      unfold cD;rw[ah aa];dsimp only;rw[hh,ai (.inr aa)]
     refine ag [2] (post:=(j,az x ((s.wRv (.iface src.t src.rv)).wScr scr))::(src.mem r++(F++(C++em)))) (junk:=[]) ⟨?_,.inr ⟨by rw[M],.inl ⟨b',rfl⟩⟩⟩ rfl gX
     rw[M];exact⟨x,_,r,F,C,em,rfl,h1,by show src.pos r=p.pos+3;omega,rfl,g,z,l,K,I,H,hb,hw,fun h=>⟨(hx h).len,(hx h).acc,(hx h).cnt,(hx h).buf,(hx h).byte⟩,q⟩
    ·refine fW ?_;exact ez [(0,bf j),(3,.int .i64 3),(7,.bool (decide (((h%2:Nat):Int)≠0))),(8,.int .u32 ((h/2%4:Nat):Int)),(9,.int .i64 ((h/8:Nat):Int))] _ cF (.refl _) fun f=>key f aa (fun _=>aa)
   ·refine aS _ ?_
    refine oQ rfl (by with_reducible rfl) ?_
    refine fW ?_;exact ez [(0,bf j),(3,.int .i64 3),(7,.bool (decide (((h%2:Nat):Int)≠0))),(8,.int .u32 ((h/2%4:Nat):Int)),(9,.int .i64 ((h/8:Nat):Int))] _ cF (.refl _) fun f=>key f aa (fun _=>aa)
 ·have M:cD dat N cmp p=({ p with pos:=N },false):=by
   unfold cD;rw[ai aa]
  have O:jV src dz j (cD dat N cmp p).1 ((j,az x ((s.wRv (.iface src.t src.rv)).wScr (ov s.scr k dat (src.pos u))))::(src.mem r++(F++(C++em)))):=by
   rw[M];exact⟨x,_,r,F,C,em,rfl,h1,by show src.pos r=N;omega,rfl,g,z,l,K,I,H,hb,hw,fun h=>⟨(hx h).len,(hx h).acc,(hx h).cnt,(hx h).buf,(hx h).byte⟩,q⟩
  by_cases h5:k=0
  ·rw[eD h4 h5];refine go ?_;refine ae (iO S j x _ _) ?_
   rintro v m ⟨⟨b',rfl⟩,rfl⟩;refine go ?_;refine af ?_;refine ag [2] (post:=(j,az x ((s.wRv (.iface src.t src.rv)).wScr (ov s.scr k dat (src.pos u))))::(src.mem r++(F++(C++em)))) (junk:=[]) ⟨O,.inr ⟨by rw[M],.inl ⟨b',rfl⟩⟩⟩ rfl gX
  ·rw[eF h4 h5];refine go ?_;refine ae (lD S j x _ _) ?_
   rintro v m ⟨⟨b',rfl⟩,rfl⟩;refine go ?_;refine af ?_;refine ag [2] (post:=(j,az x ((s.wRv (.iface src.t src.rv)).wScr (ov s.scr k dat (src.pos u))))::(src.mem r++(F++(C++em)))) (junk:=[]) ⟨O,.inr ⟨by rw[M],.inl ⟨b',rfl⟩⟩⟩ rfl gX
end Go.Proofs.YtogmacnlpclgkaaGreatDoor
namespace Go.Proofs.YtogmacnlpclgkaaGreatDoor
open Go Go.Eng
set_option maxRecDepth 4000
def so {G:ao} (S:bN G) (k:Nat) (v:Value):Prop:=k=0/\v = .nilIface\/k=1/\dM S .eof v\/k=2/\jr S v
section
variable {E:Type} (dat:Nat->Nat) (N:Nat) (ini:E->E) (cmp:PS E->Nat->PS E×Bool)
def d9 (p:PS E):PS E×Nat :=
 match dA dat N (bF dat N N p.pos) with
 | .short=>({ p with pos:=N,one:=p.one||decide (bF dat N N p.pos≠p.pos) },if N-bF dat N N p.pos=0/\(p.one||decide (bF dat N N p.pos≠p.pos))=true then 1 else 2)
 | .bad none pos=>({ p with pos:=pos,one:=p.one||decide (bF dat N N p.pos≠p.pos) },2)
 | .bad (some b) pos=>({ p with pos:=pos,one:=p.one||decide (bF dat N N p.pos≠p.pos),sum:=b,XN:=0 },2)
 | .ok sum known size win pos=>({ p with pos:=pos,saw:=true,sum:=sum,one:=true,unk:=!known,rem:=size,wl:=0,wsz:=win,XN:=0,e:=ini p.e },0)
def fI (p:PS E):PS E×Nat:=if p.saw then(p,0) else d9 dat N ini p
def bB (p:PS E):PS E×Nat :=
 if(fI dat N ini p).2=0 then((cD dat N cmp (fI dat N ini p).1).1,if(cD dat N cmp (fI dat N ini p).1).2 then 0 else 2) else fI dat N ini p
def bh:Nat->PS E->PS E×Nat
 | 0,p=>(p,2)
 | f+1,p=>if p.off<p.bl then(p,0) else if(bB dat N ini cmp p).2=0 then bh f { (bB dat N ini cmp p).1 with off:=0 } else bB dat N ini cmp p
def a_ (n:Nat) (p:PS E):PS E×Nat×Nat :=
 if(bh dat N ini cmp (N+1) p).2=0 then
  ({ (bh dat N ini cmp (N+1) p).1 with off:=(bh dat N ini cmp (N+1) p).1.off+min n ((bh dat N ini cmp (N+1) p).1.bl-(bh dat N ini cmp (N+1) p).1.off) },
   min n ((bh dat N ini cmp (N+1) p).1.bl-(bh dat N ini cmp (N+1) p).1.off),0)
 else((bh dat N ini cmp (N+1) p).1,0,(bh dat N ini cmp (N+1) p).2)
def iX (p:PS E):Nat->Nat:=fun i=>(bh dat N ini cmp (N+1) p).1.S ((bh dat N ini cmp (N+1) p).1.off+i)
inductive kK (n:Nat):PS E->(Nat->Nat)->Nat->(Nat->Nat)×Nat×Bool->Prop
 | stop (p:PS E) (O:Nat->Nat) (ol:Nat) (h:(a_ dat N ini cmp n p).2.2≠0):kK n p O ol (O,ol,decide ((a_ dat N ini cmp n p).2.2=1))
 | step (p:PS E) (O:Nat->Nat) (ol:Nat) (r:(Nat->Nat)×Nat×Bool) (h:(a_ dat N ini cmp n p).2.2=0)
   (h1:kK n (a_ dat N ini cmp n p).1 (cB O ol (iX dat N ini cmp p)) (ol+(a_ dat N ini cmp n p).2.1) r):kK n p O ol r
variable {dat N ini cmp} in
theorem kK.ge {n:Nat} {p:PS E} {O:Nat->Nat} {g:Nat} {r:(Nat->Nat)×Nat×Bool} (h:kK dat N ini cmp n p O g r):g<=r.2.1:=by
 induction h with
 | stop p O g h=>exact aZ _
 | step p O g r h j i=>exact Nat.le_trans (Nat.le_add_right _ _) i
variable {dat N ini cmp} in
theorem kK.next {n:Nat} {p:PS E} {O:Nat->Nat} {g:Nat} {r:(Nat->Nat)×Nat×Bool} (h:kK dat N ini cmp n p O g r) (h0:(a_ dat N ini cmp n p).2.2=0) :
  kK dat N ini cmp n (a_ dat N ini cmp n p).1 (cB O g (iX dat N ini cmp p)) (g+(a_ dat N ini cmp n p).2.1) r:=by
 cases h with
 | stop _ _ _ h=>exact absurd h0 h
 | step _ _ _ _ _ i=>exact i
variable {dat N ini cmp} in
theorem kK.last {n:Nat} {p:PS E} {O:Nat->Nat} {g:Nat} {r:(Nat->Nat)×Nat×Bool} (h:kK dat N ini cmp n p O g r) (h0:(a_ dat N ini cmp n p).2.2≠0) :
  r=(O,g,decide ((a_ dat N ini cmp n p).2.2=1)):=by
 cases h with
 | stop _ _ _ h=>rfl
 | step _ _ _ _ h _=>exact absurd h h0
theorem pT:∀f p,p<=bF dat N f p
 | 0,_=>aZ _
 | f+1,p=>by
  unfold bF;split
  ·exact Nat.le_trans aa (pT f _)
  ·exact aZ _
theorem sq {p:Nat} {sum known:Bool} {size win pos:Nat} (h:dA dat N p = .ok sum known size win pos) :
  p<=pos/\win<=8388608/\∃d p',size=eW dat d p':=by
 unfold dA at h
 split at h
 ·exact wR.noConfusion h
 split at h
 ·split at h<;>exact wR.noConfusion h
 split at h
 ·exact wR.noConfusion h
 dsimp only at h
 split at h
 ·exact wR.noConfusion h
 split at h
 ·exact wR.noConfusion h
 split at h
 ·exact wR.noConfusion h
 obtain⟨k,j,i,g,l⟩:=wR.ok.inj h
 exact⟨aa,by rw[<- g];exact Nat.min_le_left _ _,_,_,i.symm⟩
theorem Da {x:Nat->Nat} (h:∀i,x i<256):eX x<4294967296:=by
 have:=h 0;have:=h 1;have:=h 2;have:=h 3;unfold eX;omega
theorem Db (hd:∀i,dat i<256) (d p:Nat):eW dat d p<18446744073709551616:=by
 have g:∀p,eX (fun i=>dat (p+i))<4294967296:=fun p=>Da fun i=>hd _
 unfold eW
 split
 ·omega
 split
 ·have:=hd p;omega
 split
 ·have:=hd (p+0);have:=hd (p+1);unfold v5;dsimp only;omega
 split
 ·have:=g p;omega
 ·have a:=g p
  have b:=Da (x:=fun i=>dat (p+(i+4))) fun i=>hd _
  unfold l7;dsimp only;omega
theorem pV (last:Bool) (p:PS E):N-(cO dat N last p).1.pos<=N-p.pos:=by
 unfold cO
 by_cases h0:p.unk=false/\p.rem<p.bl
 ·rw[ai h0];exact aZ _
 rw[ah h0]
 dsimp only
 generalize (if p.sum then cB p.XT p.XN p.S else p.XT)=XT
 generalize (if p.sum then p.XN+p.bl else p.XN)=XN
 by_cases j:last=false
 ·rw[ai j];exact aZ _
 rw[ah j]
 generalize (if p.unk then p.rem else p.rem-p.bl)=r
 by_cases g:p.unk=false/\r≠0
 ·rw[ai g];exact aZ _
 rw[ah g]
 by_cases l:p.sum=false
 ·rw[ai l];exact aZ _
 rw[ah l]
 by_cases h:N-p.pos<4
 ·rw[ai h];dsimp only;omega
 rw[ah h]
 by_cases k:eX (fun i=>dat (p.pos+i))=gw XT XN%4294967296
 ·rw[ai k];dsimp only;omega
 ·rw[ah k];dsimp only;omega
def gP:Prop:=∀p size,(cmp p size).2=true->N-(cmp p size).1.pos<=N-p.pos
theorem Bi (g:gP N cmp) (p:PS E) (h:(cD dat N cmp p).2=true):N-(cD dat N cmp p).1.pos<N-p.pos:=by
 revert h
 unfold cD
 split
 ·intro h;exact absurd h (by simp)
 dsimp only
 split
 ·intro h;exact absurd h (by simp)
 split
 ·split
  ·intro h;exact absurd h (by simp)
  ·intro _;refine Nat.lt_of_le_of_lt (pV dat N _ _) ?_
   dsimp only;omega
 split
 ·split
  ·intro h;exact absurd h (by simp)
  ·intro _;refine Nat.lt_of_le_of_lt (pV dat N _ _) ?_
   dsimp only;omega
 split
 ·split
  ·rename_i hr
   intro _;refine Nat.lt_of_le_of_lt (pV dat N _ _) ?_
   have:=g _ _ hr
   dsimp only at this ⊢;omega
  ·intro h;contradiction
 ·intro h;exact absurd h (by simp)
theorem Bj (p:PS E) (h:(d9 dat N ini p).2=0):N-(d9 dat N ini p).1.pos<=N-p.pos:=by
 revert h
 have g:=pT dat N N p.pos
 unfold d9
 split
 ·intro h;revert h;dsimp only;split<;>intro h<;>exact absurd h (by decide)
 ·intro h;exact absurd h (by simp)
 ·intro h;exact absurd h (by simp)
 ·rename_i he
  intro _;have:=(sq dat N he).1
  dsimp only;omega
theorem Dc (p:PS E) (h:(fI dat N ini p).2=0):N-(fI dat N ini p).1.pos<=N-p.pos:=by
 unfold fI at h ⊢
 split at h
 ·rename_i hs;rw[ai hs];exact aZ _
 ·rename_i hs;rw[ah hs];exact Bj dat N ini p h
theorem lF (g:gP N cmp) (p:PS E) (h:(bB dat N ini cmp p).2=0):N-(bB dat N ini cmp p).1.pos<N-p.pos:=by
 unfold bB at h ⊢
 split at h
 ·rename_i h0
  rw[ai h0];dsimp only at h ⊢;split at h
  ·rename_i hb
   exact Nat.lt_of_lt_of_le (Bi dat N cmp g _ hb) (Dc dat N ini p h0)
  ·exact absurd h (by decide)
 ·contradiction
theorem gp (f:Nat) (p:PS E):bh dat N ini cmp (f+1) p=if p.off<p.bl then(p,0) else if(bB dat N ini cmp p).2=0 then bh dat N ini cmp f { (bB dat N ini cmp p).1 with off:=0 } else bB dat N ini cmp p:=rfl
theorem qN (g:gP N cmp):∀f p,N-p.pos<f->bh dat N ini cmp (f+1) p=bh dat N ini cmp f p
 | 0,_,h=>absurd h (Nat.not_lt_zero _)
 | f+1,p,h=>by
  rw[gp dat N ini cmp (f+1) p,gp dat N ini cmp f p];split
  ·rfl
  split
  ·rename_i hf
   exact qN g f _ (by have:=lF dat N ini cmp g p hf;dsimp only;omega)
  ·rfl
theorem mC (g:gP N cmp) (p:PS E) (i:¬p.off<p.bl) (h:(bB dat N ini cmp p).2=0):bh dat N ini cmp (N+1) p=bh dat N ini cmp (N+1) { (bB dat N ini cmp p).1 with off:=0 }:=by
 rw[gp dat N ini cmp N p,ah i,ai h]
 exact(qN dat N ini cmp g N _ (by have:=lF dat N ini cmp g p h;dsimp only;omega)).symm
theorem mD (p:PS E) (g:p.off<p.bl):bh dat N ini cmp (N+1) p=(p,0):=by rw[gp dat N ini cmp N p,ai g]
theorem gQ (p:PS E) (h:¬p.off<p.bl) (g:(bB dat N ini cmp p).2≠0):bh dat N ini cmp (N+1) p=bB dat N ini cmp p:=by rw[gp dat N ini cmp N p,ah h,ah g]
end
end Go.Proofs.YtogmacnlpclgkaaGreatDoor
