/- Texts 11. -/
import Derived.Test.YtogmacnlpclgkaaGreatDoorX10
set_option linter.all false
namespace Go.Proofs.YtogmacnlpclgkaaGreatDoor
open Go Go.Eng
attribute [local irreducible] RO J av aO
variable {G:ao} {S:bN G} {dat:Nat->Nat} {N:Nat}
theorem HD (src:dn S dat N) (hd:∀i,dat i<256) (F:lU src) (h:src.σ) (B:Nat) (x:Int) (s:RS) (p:ao) (wl:Nat) (U:Nat->Value) (dE:src.ok h) (H:s.rv = .iface src.t src.rv) (u:∀i,s.scr i<256) (Y:dH 1 s.wd wl U p)
  (C:bk) (I:(2,C)∈G) (O:0<C.n) (K:C.g 0 = .bool false) :
  av Tryz.prog G 67 #[bf B] ((B,az x s)::(src.mem h++p)) (fun v m =>
   ∃x' k l j,src.ok l/\(∀i,k.scr i<256)/\m=(B,az x' k)::(src.mem l++j) /\
    match dA dat N (bF dat N N (src.pos h)) with
    | .short=>src.pos l=N/\j=p/\k={ s with one:=s.one||decide (bF dat N N (src.pos h)≠src.pos h),scr:=k.scr }/\dM S (if N-bF dat N N (src.pos h)=0/\(s.one||decide (bF dat N N (src.pos h)≠src.pos h))=true then .eof else .z) v
    | .bad sum pos=>src.pos l=pos/\j=p/\k=RS.setSum { s with one:=s.one||decide (bF dat N N (src.pos h)≠src.pos h) } k.scr sum/\dM S .z v
    | .ok sum known size win pos=>src.pos l=pos/\v = .nilIface/\dH 1 k.wd 0 (fun _=>undef) j/\k=(RS.setSum { s with one:=s.one||decide (bF dat N N (src.pos h)≠src.pos h) } k.scr (some sum)).setHdr known size win k.wd):=by
 refine(Jf src hd F h B x s p wl U dE H u Y C I O K).eqv ?_
 rintro v m ⟨x',V,l,M,J,r⟩
 simp only at r
 split at r
 ·rename_i he
  obtain⟨a1,y,q⟩:=r;exact⟨_,y,x',_,l,p,M,J,rfl,by rw[he];exact⟨a1,rfl,rfl,q⟩⟩
 ·rename_i sum pos he
  obtain⟨a1,y,q⟩:=r;refine⟨_,y,x',_,l,p,M,?_,rfl,?_⟩
  ·intro i;cases sum<;>exact J i
  ·rw[he];exact⟨a1,rfl,by cases sum<;>rfl,q⟩
 ·rename_i sum known size win pos he
  obtain⟨a1,y,W,j,q,a4⟩:=r;exact⟨_,a4,x',_,l,j,M,J,rfl,by rw[he];exact⟨a1,y,q,rfl⟩⟩
structure zL (M:ao) (oa:Option Addr) (N cp:Nat) (dat:Nat->Nat):Prop where
 le:N<=cp
 is:(oa=none/\N=0/\cp=0)\/∃b o B,oa=some ⟨b,o,none⟩/\(b,B)∈M/\(0<N->o+N<=B.n)/\∀i,i<N->B.g (o+i) = .int .u8 (dat i)
theorem bV {s len:Nat} {v:Value} {cl:Nat->Value} {sm:ao} (h:dH s v len cl sm):∃g cp,v = .slice g len cp:=by
 rcases h with⟨rfl,rfl,_⟩|⟨b,o,cp,B,rfl,_⟩
 ·exact⟨_,_,rfl⟩
 ·exact⟨_,_,rfl⟩
theorem bR {s len:Nat} {v:Value} {cl cl':Nat->Value} {sm:ao} (h:dH s v len cl sm) (t:∀i,i<len*s->cl i=cl' i):dH s v len cl' sm:=by
 rcases h with h|⟨b,o,r,B,p,g,j,l,q,k⟩
 ·exact .inl h
 ·exact .inr ⟨b,o,r,B,p,g,j,l,q,fun i hi=>(k i hi).trans (t i hi)⟩
end Go.Proofs.YtogmacnlpclgkaaGreatDoor
namespace Go.Proofs.YtogmacnlpclgkaaGreatDoor
open Go Go.Eng
attribute [local irreducible] RO J av aO
variable {G:ao}
def dw (S:Nat->Nat):Nat->Value:=fun i=>.int .u8 ((S i:Nat):Int)
abbrev fS (v:Value) (len:Nat) (S:Nat->Nat) (sm:ao):Prop:=ky v len (dw S) sm
theorem si {S:Nat->Nat} {len k:Nat} (h:∀i,len<=i->S i=0):cQ (dw S) len k (fun _=>.int .u8 0)=dw S:=by
 funext i
 by_cases hi:len<=i/\i<len+k
 ·rw[bH _ _ _ _ _ hi.1 hi.2];unfold dw;rw[h i hi.1];rfl
 ·rw[aP _ _ _ _ _ aa]
theorem C5 {a:Nat} (h:Value.int .u8 ((a:Nat):Int) = .int .u8 0):a=0:=by
 have:=Value.int.inj h;omega
set_option maxRecDepth 4000 in
theorem wU (g:Nat) (x:Int) (s:RS) (len size:Nat) (S:Nat->Nat) (M:ao) (hb:fS s.buf len S M) (hs:size<=2^30) :
  av Tryz.prog G 85 #[bf g,.int .i64 size] ((g,az x s)::M) (fun _ m =>
   ∃j q,fS j size S q/\m=(g,az x (s.wBuf j))::q):=by
 refine bE Tryz.func85 fun c h0 hex=>?_
 rw[<- s.wBuf_self]
 generalize s.buf=bv at hb ⊢
 rcases hb with⟨rfl,rfl,rfl,p⟩|⟨b,cap,B,rfl,rfl,hf,O,W,t,p⟩
 ·have l:∀i,0<=i->S i=0:=fun i _=>C5 (p i)
  refine go ?_;refine ac rfl (fun y=>?_) (fun u=>?_)
  ·refine go ?_;refine fY rfl rfl rfl rfl rfl rfl ?_
   refine go ?_;refine mw (len:=0) (k:=size-0) (S:=dw S) (sm:=[]) (fm:=[(g,az x (s.wBuf (.slice none 0 0)))]) rfl rfl rfl rfl z5 (by decide) rfl rfl (.inl ⟨rfl,rfl,rfl,p⟩) (.refl _) rfl aa hex rfl ?_
   intro U F r;rw[si l,Nat.zero_add,Nat.sub_zero] at r;rcases r with⟨rfl,V,rfl,_⟩|⟨b,cap,B,rfl,rfl,I,C,K,H,J⟩
   ·omega
   ·refine go ?_;exact bY [] (post:=(g,az x (s.wBuf (.slice (bi b) size cap)))::[(b,B)]) (junk:=[]) ⟨_,_,.inr ⟨b,cap,B,rfl,rfl,I,C,K,H,J⟩,rfl⟩
  ·obtain rfl:size=0:=aa;refine go ?_;refine fY rfl rfl rfl rfl rfl rfl ?_
   refine go ?_;exact bY [] (post:=(g,az x (s.wBuf (.slice none 0 0)))::[]) (junk:=[]) ⟨_,[],.inl ⟨rfl,rfl,rfl,p⟩,rfl⟩
 ·refine go ?_;refine ac rfl (fun y=>?_) (fun u=>?_)
  ·have l:∀i,cap<=i->S i=0:=fun i h=>C5 (p i h)
   refine go ?_;refine mw (len:=cap) (k:=size-cap) (S:=dw S) (sm:=[(b,B)]) (fm:=[(g,az x (s.wBuf (.slice (bi b) len cap)))]) rfl rfl rfl rfl z5 (by decide) rfl rfl (.inr ⟨b,cap,B,rfl,rfl,hf,O,aZ _,t,p⟩) (List.Perm.swap _ _ _) rfl aa hex rfl ?_
   intro U F r;rw[si l,show cap+(size-cap)=size from aa] at r;rcases r with⟨rfl,V,rfl,_⟩|⟨b,cap,B,rfl,rfl,I,C,K,H,J⟩
   ·omega
   ·refine go ?_;exact bY [] (post:=(g,az x (s.wBuf (.slice (bi b) size cap)))::[(b,B)]) (junk:=[]) ⟨_,_,.inr ⟨b,cap,B,rfl,rfl,I,C,K,H,J⟩,rfl⟩
  ·refine go ?_;exact bY [] (post:=(g,az x (s.wBuf (.slice (bi b) size cap)))::[(b,B)]) (junk:=[]) ⟨_,_,.inr ⟨b,cap,B,rfl,rfl,hf,O,aa,t,p⟩,rfl⟩
end Go.Proofs.YtogmacnlpclgkaaGreatDoor
namespace Go.Proofs.YtogmacnlpclgkaaGreatDoor
open Go Go.Eng
attribute [local irreducible] RO J av aO
set_option maxRecDepth 4000
variable {G:ao}
def gC (g:Nat->Nat) (a k:Nat) (src:Nat->Nat):Nat->Nat:=fun i=>if a<=i/\i<a+k then src (i-a) else g i
def cB (L:Nat->Nat) (wl:Nat) (S:Nat->Nat):Nat->Nat:=fun i=>if i<wl then L i else S (i-wl)
def nF (v:Value) (g h:Nat) (L:Nat->Nat) (wl:Nat) (j:ao):Prop :=
 ∃ph:Nat->Nat,dH 1 v wl (dw ph) j/\wl<=g/\h<=wl/\(wl<g->h=0)/\∀i,i<wl->L i=ph (if h+i<wl then h+i else h+i-wl)
theorem nF.congr {v:Value} {g j wl:Nat} {L L':Nat->Nat} {wm:ao} (h:nF v g j L wl wm) (e:∀i,i<wl->L i=L' i):nF v g j L' wl wm:=by
 obtain⟨ph,p,k,r,l,q⟩:=h
 exact⟨ph,p,k,r,l,fun i hi=>(e i hi).symm.trans (q i hi)⟩
def l_ (g wl:Nat) (L:Nat->Nat) (bl:Nat) (S:Nat->Nat):Nat->Nat:=fun i=>cB L wl S (wl+bl-min g (wl+bl)+i)
set_option maxHeartbeats 1000000 in
theorem HE (rb:Nat) (x:Int) (s:RS) (wl bl:Nat) (L S:Nat->Nat) (wm bm:ao) (vb:Value) (hw:nF s.wd s.wsz s.wo L wl wm) (hb:fS vb bl S bm) (hs:s.wsz<=2^30) (b1:bl<=2^30) :
  av Tryz.prog G 88 #[.pointer (some ⟨rb,14,none⟩),vb] ((rb,az x s)::(wm++bm)) (fun _ m =>
   ∃ab u am,nF ab s.wsz u (l_ s.wsz wl L bl S) (min s.wsz (wl+bl)) am/\m=(rb,az x (s.wWin s.wsz ab u))::(am++bm)):=by
 obtain⟨oa,U,rfl⟩:∃oa cp,vb = .slice oa bl cp:=by
  rcases hb with⟨rfl,rfl,_⟩|⟨b,cap,B,rfl,_⟩
  ·exact⟨_,_,rfl⟩
  ·exact⟨_,_,rfl⟩
 refine bE Tryz.func88 fun c h0 hex=>?_
 rw[<- s.wWin_self]
 generalize s.wsz=z at hw hs ⊢
 generalize s.wd=wv at hw ⊢
 generalize s.wo=wo at hw ⊢
 obtain⟨ph,ad,h1,h2,h3,h4⟩:=hw
 show J Tryz.prog G c _ h0 _ (Eng.Ends Tryz.prog G c _ h0 fun _ m=>∃ab u am,nF ab z u (l_ z wl L bl S) (min z (wl+bl)) am/\m=(rb,az x (s.wWin z ab u))::(am++bm)) _ _
 obtain⟨wa,r,rfl⟩:=bV ad
 refine go ?_
 refine ac rfl (fun(hz:((z:Nat):Int)=0)=>?_) (fun(hz:¬((z:Nat):Int)=0)=>?_)
 ·obtain rfl:z=0:=aa;refine go ?_;exact af (ag [] ⟨_,wo,_,⟨ph,by rw[show min 0 (wl+bl)=wl from aa];exact ad,aa,aa,aa,fun i hi=>aa⟩,rfl⟩)
 refine go ?_
 refine ac rfl (fun be=>?_) (fun be=>?_)
 ·obtain rfl:bl=0:=aa;have e:min z (wl+0)=wl:=aa
  refine go ?_;refine af ?_;refine ag [] ⟨_,wo,_,⟨ph,by rw[e];exact ad,aa,aa,fun h=>h3 aa,fun i hi=>?_⟩,rfl⟩
  rw[e] at hi ⊢;rw[<- h4 i hi];unfold l_ cB;rw[e,Nat.add_zero,Nat.sub_self,Nat.zero_add,ai hi]
 rcases hb with⟨ce,cd,_⟩|⟨I,bcap,q,a7,rfl,b8,ca,bv,bd,_⟩
 ·omega
 obtain⟨rfl,rfl⟩:oa=some ⟨I,0,none⟩/\U=bcap:=by
  have:=Value.slice.inj a7
  exact⟨this.1,this.2.2⟩
 clear a7
 have p:∀i,i<bl->q.g i=dw S i:=fun i hi=>bd i aa
 refine go ?_
 refine ac rfl (fun(b6:((bl:Nat):Int) ≥ ((z:Nat):Int))=>?_) (fun(b9:¬((bl:Nat):Int) ≥ ((z:Nat):Int))=>?_)
 ·have bs:z<=bl:=aa
  have e:min z (wl+bl)=z:=aa
  have K:∀v' sm',dH 1 v' (0+(bl-(bl-z))) (fun i=>if i<0*1 then undef else q.g (0+(bl-z)+(i-0*1))) sm'->nF v' z 0 (l_ z wl L bl S) (min z (wl+bl)) sm':=fun v' sm' h=>by
   refine⟨fun i=>S (bl-z+i),?_,aa,aa,fun _=>rfl,fun i hi=>?_⟩
   ·rw[e,show z=0+(bl-(bl-z)) from aa];refine bR h fun i hi=>?_
    rw[ah aa,Nat.zero_mul,Nat.sub_zero,Nat.zero_add,p _ aa];unfold dw;rw[show 0+(bl-(bl-z))=z from aa]
   ·rw[e] at hi ⊢;unfold l_ cB;rw[e,ah aa,ai aa]
    congr 1;omega
  rcases ad with⟨a4,a6,rfl⟩|⟨H,l,wcap,t,a2,rfl,y,M,F,W⟩
  ·obtain⟨rfl,rfl⟩:wa=none/\r=0:=by
    have:=Value.slice.inj a4
    exact⟨this.1,this.2.2⟩
   subst a6;refine go ?_;refine fY rfl rfl rfl rfl rfl rfl ?_
   refine go ?_;refine bg (s:=0) (len:=0) (k:=bl-(bl-z)) (cl:=fun _=>undef) (src:=fun j=>q.g (0+(bl-z)+j)) (sm:=[]) (fm:=(rb,az x (s.wWin z (.slice none 0 0) wo))::[(I,q)]) rfl rfl rfl rfl z5 (by decide) rfl rfl (.inl ⟨rfl,rfl,rfl⟩) (.refl _) (.inl ⟨I,0+(bl-z),_,q,rfl,by simp,aa,rfl⟩) (fun j Y=>by rw[Nat.zero_add,p _ aa];rfl) aa hex rfl ?_
   intro v' sm' hv ax
   refine go ?_;refine af ?_;exact ag [] (junk:=[]) ⟨_,0,_,K _ _ hv,rfl⟩ rfl (.cons dT (.of_perm (by simpa using List.perm_append_comm (l₁:=[(I,q)]) (l₂:=sm'))))
  ·obtain⟨rfl,rfl⟩:wa=some ⟨H,l,none⟩/\r=wcap:=by
    have:=Value.slice.inj a2
    exact⟨this.1,this.2.2⟩
   refine go ?_;refine bg (s:=0) (len:=0) (k:=bl-(bl-z)) (cl:=fun _=>undef) (src:=fun j=>q.g (0+(bl-z)+j)) (sm:=[(H,t)]) (fm:=(rb,az x (s.wWin z (.slice (some ⟨H,l,none⟩) wl r) wo))::[(I,q)]) rfl rfl rfl rfl z5 (by decide) rfl rfl (.inr ⟨H,l,r,t,rfl,rfl,y,M,Nat.zero_le _,fun i hi=>aa⟩) (List.Perm.swap _ _ _) (.inl ⟨I,0+(bl-z),_,q,rfl,by simp,aa,rfl⟩) (fun j Y=>by rw[Nat.zero_add,p _ aa];rfl) aa hex rfl ?_
   intro v' sm' hv ax
   refine go ?_;refine af ?_;exact ag [] (junk:=[]) ⟨_,0,_,K _ _ hv,rfl⟩ rfl (.cons dT (.of_perm (by simpa using List.perm_append_comm (l₁:=[(I,q)]) (l₂:=sm'))))
 have bu:bl<z:=aa
 rcases ad with⟨a4,a6,rfl⟩|⟨H,l,wcap,t,a2,rfl,y,M,F,W⟩
 ·obtain⟨rfl,rfl⟩:wa=none/\r=0:=by
   have:=Value.slice.inj a4
   exact⟨this.1,this.2.2⟩
  subst a6;have e:min z (0+bl)=bl:=aa
  obtain rfl:wo=0:=aa;refine go ?_;refine ac rfl (fun h=>absurd h aa) (fun _=>?_)
  refine go ?_;refine ac rfl (fun _=>?_) (fun h=>absurd h aa)
  refine go ?_;refine bg (s:=0) (len:=0) (k:=bl) (cl:=fun _=>undef) (src:=fun j=>q.g (0+j)) (sm:=[]) (fm:=(rb,az x (s.wWin z (.slice none 0 0) 0))::[(I,q)]) rfl rfl rfl rfl z5 (by decide) rfl rfl (.inl ⟨rfl,rfl,rfl⟩) (.refl _) (.inl ⟨I,0,U,q,rfl,by simp,aa,rfl⟩) (fun j Y=>by rw[Nat.zero_add,p _ aa];rfl) aa hex rfl ?_
  intro v' sm' hv ax
  refine go ?_;refine bY [] (junk:=[]) ⟨v',0,sm',⟨S,?_,aa,aa,fun _=>rfl,fun i hi=>?_⟩,rfl⟩ rfl (.cons dT (.of_perm (by simpa using List.perm_append_comm (l₁:=[(I,q)]) (l₂:=sm'))))
  ·rw[e];have hv:dH 1 v' bl (fun i=>if i<0 then undef else q.g (0+(i-0*1))) sm':=by simpa only[Nat.zero_add] using hv
   refine bR hv fun i hi=>?_
   rw[ah aa,Nat.zero_mul,Nat.sub_zero,Nat.zero_add,p _ aa]
  ·rw[e] at hi ⊢;unfold l_ cB;rw[e,ah aa,ai aa]
   congr 1;omega
 ·obtain⟨rfl,rfl⟩:wa=some ⟨H,l,none⟩/\r=wcap:=by
   have:=Value.slice.inj a2
   exact⟨this.1,this.2.2⟩
  have a0:∀i,i<wl->t.g (l+i)=dw ph i:=fun i hi=>W i aa
  refine go ?_;refine ac rfl (fun bq=>?_) (fun bq=>?_)
  ·have cc:wl=z:=aa
   have b4:min bl (wl-wo)<=bl:=Nat.min_le_left _ _
   have br:min bl (wl-wo)<=wl-wo:=Nat.min_le_right _ _
   have cb:min bl (wl-wo)=bl\/min bl (wl-wo)=wl-wo:=aa
   have a9:∀n,n<=wl-wo->cQ t.g (sOff l wo (0+1) r) (n*(0+1)) (fun j=>q.g (0+j))=cQ t.g (l+wo) n (fun j=>q.g j):=fun n hn=>by
    by_cases h0:n=0
    ·subst h0;rw[Nat.zero_mul,eY,eY]
    ·have:sOff l wo (0+1) r=l+wo:=by unfold sOff;rw[ah aa];omega
     rw[this,show n*(0+1)=n from aa];simp only[Nat.zero_add]
   refine go ?_;refine Hn wo wl rfl rfl rfl rfl rfl rfl rfl h2 F rfl ?_
   refine go ?_;refine jq (s:=0) (k:=bl) (src:=fun j=>q.g (0+j)) rfl rfl rfl rfl (.inl ⟨I,0,U,q,rfl,by simp,aa,rfl⟩) (fun j Y=>by rw[Nat.zero_add,p _ aa];rfl) (.there .here) y (by unfold sOff;split<;>omega) hex rfl ?_
   rw[a9 _ br];generalize min bl (wl-wo)=n at *;have K:∀(u:Nat) (aw:Nat->Nat) (B':bk),B'.fr=(0,0)->B'.n=t.n->(∀i,i<wl->B'.g (l+i)=dw aw i)->u<=wl->(∀i,i<wl->l_ z wl L bl S i=aw (if u+i<wl then u+i else u+i-wl)) ->
     nF (.slice (some ⟨H,l,none⟩) wl r) z u (l_ z wl L bl S) (min z (wl+bl)) [(H,B')]:=fun u aw B' g1 g2 g3 g4 g5=>by
    have e:min z (wl+bl)=wl:=aa
    rw[e];exact⟨aw,.inr ⟨H,l,r,B',rfl,rfl,g1,aa,F,fun i hi=>g3 i aa⟩,h1,g4,fun h=>aa,g5⟩
   have hL:∀i,i<wl->l_ z wl L bl S i=if bl+i<wl then L (bl+i) else S (bl+i-wl):=fun i hi=>by
    unfold l_ cB;rw[show wl+bl-min z (wl+bl)+i=bl+i from aa]
   refine go ?_;refine ac rfl (fun b3=>?_) (fun b2=>?_)
   ·have bc:n=bl:=aa
    subst bc;refine go ?_;refine bY [] (junk:=[]) ⟨_,wo+n,_,K (wo+n) (fun i=>if wo<=i/\i<wo+n then S (i-wo) else ph i) ⟨t.n,cQ t.g (l+wo) n fun j=>q.g j,t.T,t.fr⟩ y rfl (fun i hi=>?_) aa (fun i hi=>?_),rfl⟩
    ·show cQ t.g (l+wo) n (fun j=>q.g j) (l+i)=dw (fun i=>if wo<=i/\i<wo+n then S (i-wo) else ph i) i
     unfold dw;by_cases O:wo<=i/\i<wo+n
     ·rw[bH _ _ _ _ _ aa aa,p _ aa];simp only[ai O]
      unfold dw;congr 3;omega
     ·rw[aP _ _ _ _ _ aa,a0 i hi];simp only[ah O];rfl
    ·rw[hL i hi];generalize Y:(if wo+n+i<wl then wo+n+i else wo+n+i-wl)=j;have ba:(wo+n+i<wl/\j=wo+n+i)\/(¬wo+n+i<wl/\j=wo+n+i-wl):=by split at Y<;>omega
     show _=if wo<=j/\j<wo+n then S (j-wo) else ph j
     by_cases C:n+i<wl
     ·rw[ai C,h4 _ C,ah (c:=wo<=j/\j<wo+n) aa];congr 1;split<;>omega
     ·rw[ah C,ai aa];congr 1;omega
   ·have b5:n=wl-wo:=aa
    have bc:n<bl:=aa
    refine go ?_;refine jq (s:=0) (k:=bl-n) (src:=fun j=>q.g (0+n+j)) rfl rfl rfl rfl (.inl ⟨I,0+n,U-n,q,rfl,by simp,aa,rfl⟩) (fun j Y=>by rw[Nat.zero_add,p _ aa];rfl) (.there .here) y (by show l+_<=t.n;omega) hex rfl ?_
    have a5:min (bl-n) wl=bl-n:=aa
    rw[a5];refine go ?_;refine bY [] (junk:=[]) ⟨_,bl-n,_,K (bl-n) (fun i=>if i<bl-n then S (n+i) else if wo<=i then S (i-wo) else ph i) ⟨t.n,cQ (cQ t.g (l+wo) n fun j=>q.g j) l ((bl-n)*(0+1)) (fun j=>q.g (0+n+j)),t.T,t.fr⟩ y rfl (fun i hi=>?_) aa (fun i hi=>?_),rfl⟩
    ·show cQ (cQ t.g (l+wo) n fun j=>q.g j) l ((bl-n)*(0+1)) (fun j=>q.g (0+n+j)) (l+i) = .int .u8 (((if i<bl-n then S (n+i) else if wo<=i then S (i-wo) else ph i:Nat)):Int)
     rw[show(bl-n)*(0+1)=bl-n from aa];by_cases O:i<bl-n
     ·rw[bH _ _ _ _ _ aa aa,ai O,p _ aa];unfold dw;congr 3;omega
     ·rw[aP _ _ _ _ _ aa,ah O];by_cases a1:wo<=i
      ·rw[bH _ _ _ _ _ aa aa,ai a1,p _ aa];unfold dw;congr 3;omega
      ·rw[aP _ _ _ _ _ aa,ah a1,a0 i hi];rfl
    ·rw[hL i hi];generalize Y:(if bl-n+i<wl then bl-n+i else bl-n+i-wl)=j;have ba:(bl-n+i<wl/\j=bl-n+i)\/(¬bl-n+i<wl/\j=bl-n+i-wl):=by split at Y<;>omega
     show _=if j<bl-n then S (n+j) else if wo<=j then S (j-wo) else ph j
     by_cases C:bl+i<wl
     ·rw[ai C,h4 _ C,ah (c:=j<bl-n) aa,ah (c:=wo<=j) aa];congr 1;split<;>omega
     ·rw[ah C];by_cases al:j<bl-n
      ·rw[ai al];congr 1;omega
      ·rw[ah al,ai aa];congr 1;omega
  ·have a3:wl<z:=aa
   have M:wo=0:=h3 a3
   subst M;have a8:∀i,i<wl->L i=ph i:=fun i hi=>by rw[h4 i hi,ai aa,Nat.zero_add]
   refine go ?_;refine ac rfl (fun bo=>?_) (fun b7=>?_)
   ·have e:min z (wl+bl)=wl+bl:=aa
    refine go ?_;refine bg (s:=0) (len:=wl) (k:=bl) (cl:=dw ph) (src:=fun j=>q.g (0+j)) (sm:=[(H,t)]) (fm:=(rb,az x (s.wWin z (.slice (some ⟨H,l,none⟩) wl r) 0))::[(I,q)]) rfl rfl rfl rfl z5 (by decide) rfl rfl (.inr ⟨H,l,r,t,rfl,rfl,y,M,F,W⟩) (List.Perm.swap _ _ _) (.inl ⟨I,0,U,q,rfl,by simp,aa,rfl⟩) (fun j Y=>by rw[Nat.zero_add,p _ aa];rfl) aa hex rfl ?_
    intro v' sm' hv ax
    refine go ?_;refine bY [] (junk:=[]) ⟨v',0,sm',⟨cB ph wl S,?_,aa,aa,fun _=>rfl,fun i hi=>?_⟩,rfl⟩ rfl (.cons dT (.of_perm (by simpa using List.perm_append_comm (l₁:=[(I,q)]) (l₂:=sm'))))
    ·rw[e];refine bR hv fun i hi=>?_
     rw[Nat.mul_one];unfold dw cB;by_cases V:i<wl
     ·rw[ai V,ai V]
     ·rw[ah V,ah V,Nat.zero_add,p _ aa];rfl
    ·rw[e] at hi ⊢;unfold l_ cB;rw[e,Nat.sub_self,Nat.zero_add,ai hi];by_cases V:i<wl
     ·rw[ai V,ai V,a8 i V]
     ·rw[ah V,ah V]
   ·have bt:z-wl<bl:=aa
    refine go ?_;refine bg (s:=0) (len:=wl) (k:=z-wl) (cl:=dw ph) (src:=fun j=>q.g (0+j)) (sm:=[(H,t)]) (fm:=(rb,az x (s.wWin z (.slice (some ⟨H,l,none⟩) wl r) 0))::[(I,q)]) rfl rfl rfl rfl z5 (by decide) rfl rfl (.inr ⟨H,l,r,t,rfl,rfl,y,M,F,W⟩) (List.Perm.swap _ _ _) (.inl ⟨I,0,U,q,rfl,by simp,aa,rfl⟩) (fun j Y=>by rw[Nat.zero_add,p _ aa];rfl) aa hex rfl ?_
    intro v' sm' hv ax
    rcases hv with⟨_,h0,_⟩|⟨H,l,r,t,rfl,rfl,y,M,F,W⟩
    ·omega
    rw[show wl+(z-wl)=z from aa];refine go ?_;refine jq (s:=0) (k:=bl-(z-wl)) (src:=fun j=>q.g (0+(z-wl)+j)) rfl rfl rfl rfl (.inl ⟨I,0+(z-wl),U-(z-wl),q,rfl,by simp,aa,rfl⟩) (fun j Y=>by rw[Nat.zero_add,p _ aa];rfl) (.there (.there .here)) y (by show l+_<=t.n;omega) hex rfl ?_
    have a5:min (bl-(z-wl)) z=bl-(z-wl):=aa
    rw[a5];refine go ?_;have e:min z (wl+bl)=z:=aa
    refine bY [] (junk:=[]) ⟨.slice (some ⟨H,l,none⟩) z r,bl-(z-wl),[(H,⟨t.n,cQ t.g l ((bl-(z-wl))*(0+1)) (fun j=>q.g (0+(z-wl)+j)),t.T,t.fr⟩)],⟨fun i=>if i<bl-(z-wl) then S (z-wl+i) else cB ph wl S i,.inr ⟨H,l,r,⟨t.n,cQ t.g l ((bl-(z-wl))*(0+1)) (fun j=>q.g (0+(z-wl)+j)),t.T,t.fr⟩,by rw[e],rfl,y,M,aa,fun i hi=>?_⟩,aa,aa,fun h=>aa,fun i hi=>?_⟩,rfl⟩ rfl (.cons dT (.of_perm (List.Perm.swap _ _ _)))
    ·show cQ t.g l ((bl-(z-wl))*(0+1)) (fun j=>q.g (0+(z-wl)+j)) (l+i) = .int .u8 (((if i<bl-(z-wl) then S (z-wl+i) else cB ph wl S i:Nat)):Int)
     rw[show(bl-(z-wl))*(0+1)=bl-(z-wl) from aa];by_cases O:i<bl-(z-wl)
     ·rw[bH _ _ _ _ _ aa aa,ai O,p _ aa];unfold dw;congr 3;omega
     ·rw[aP _ _ _ _ _ aa,ah O];rw[W i aa,Nat.mul_one];unfold cB;dsimp only;by_cases V:i<wl
      ·rw[ai V,ai V];rfl
      ·rw[ah V,ah V,Nat.zero_add,p _ aa];rfl
    ·rw[e] at hi ⊢;generalize Y:(if bl-(z-wl)+i<z then bl-(z-wl)+i else bl-(z-wl)+i-z)=j;have ba:(bl-(z-wl)+i<z/\j=bl-(z-wl)+i)\/(¬bl-(z-wl)+i<z/\j=bl-(z-wl)+i-z):=by split at Y<;>omega
     show _=if j<bl-(z-wl) then S (z-wl+j) else cB ph wl S j
     unfold l_ cB;rw[e];by_cases C:wl+bl-z+i<wl
     ·rw[ai C,a8 _ C,ah (c:=j<bl-(z-wl)) aa,ai aa];congr 1;omega
     ·rw[ah C];by_cases al:j<bl-(z-wl)
      ·rw[ai al];congr 1;omega
      ·rw[ah al,ah aa];congr 1;omega
@[irreducible] def dR:Nat:=2^64
theorem jb:dR=2^64:=by unfold dR;rfl
theorem bK:(2:Nat)^IntKind.u64.bits=dR:=jb.symm
theorem oY:0<dR:=by rw[jb];decide
theorem en (a:Nat):a%dR<dR:=Nat.mod_lt _ oY
@[irreducible] def zM:Nat:=11400714785074694791
@[irreducible] def Fl:Nat:=14029467366897019727
@[irreducible] def G0:Nat:=1609587929392839161
@[irreducible] def HF:Nat:=9650029242287828579
@[irreducible] def Cr:Nat:=2870177450012600261
theorem kz:(11400714785074694791:Int)=((zM:Nat):Int):=by unfold zM;decide
theorem pQ:(14029467366897019727:Int)=((Fl:Nat):Int):=by unfold Fl;decide
theorem vf:(1609587929392839161:Int)=((G0:Nat):Int):=by unfold G0;decide
theorem vg:(9650029242287828579:Int)=((HF:Nat):Int):=by unfold HF;decide
theorem vh:(2870177450012600261:Int)=((Cr:Nat):Int):=by unfold Cr;decide
def kJ (x k:Nat):Nat:=(x*2^k%dR)|||(x/2^(64-k))
def jG (v n:Nat):Nat:=kJ ((v+n*Fl%dR)%dR) 31*zM%dR
def yq (h v:Nat):Nat:=((h ^^^ jG 0 v)*zM%dR+HF)%dR
theorem hU {a:Nat} (h:a<dR):a<2^fJ .u64:=by rw[jb] at h;exact h
theorem ki (v n:Nat):jG v n<dR:=en _
theorem rF (v n:Nat):yq v n<dR:=en _
theorem jh {m:ao} {x:Nat} {K:Int} (k:Nat) (h:K=(k:Int)) (hx:x<dR) (g:k<64):aO Tryz.prog G 49 #[.int .u64 x,.int .i64 K] m (.int .u64 (kJ x k)):=by
 subst h
 refine l8 Tryz.func49 fun c h0=>?_
 refine go ?_
 have e:k%64=k:=Nat.mod_eq_of_lt g
 refine zD (a:=x) (b:=k%64) rfl rfl rfl rfl rfl rfl ?_
 refine go ?_
 refine gb rfl rfl rfl rfl (a:=x*2^(k%64)%2^IntKind.u64.bits) (b:=x/2^(64-k%64)) ?_ ?_ rfl rfl ?_
 ·exact Nat.mod_lt _ (Nat.two_pow_pos _)
 ·exact hU (Nat.lt_of_le_of_lt (Nat.div_le_self _ _) hx)
 refine go ?_
 refine af ?_
 refine cL [4] rfl (post:=[]) (junk:=[]) (.refl _) ?_
 show Value.int .u64 _=_
 unfold kJ
 rw[e,bK]
theorem kA {m:ao} {g o:Nat} {V:Int} (v:Nat) {n:Nat} (h:V=(v:Int)):aO Tryz.prog G 97 #[.pointer (some ⟨g,o,none⟩),.int .u64 V,.int .u64 n] m (.int .u64 (jG v n)):=by
 subst h
 refine l8 Tryz.func97 fun c h0=>?_
 refine go ?_
 refine dZ rfl rfl rfl pQ rfl rfl ?_
 rw[bK]
 refine go ?_
 refine eM rfl rfl rfl rfl rfl rfl ?_
 rw[bK]
 refine go ?_
 refine aA (jh (K:=31) 31 rfl (en _) (by decide)) ?_
 refine go ?_
 refine dZ rfl rfl rfl kz rfl rfl ?_
 rw[bK]
 refine go ?_
 refine af ?_
 exact cL [6] rfl (post:=[]) (junk:=[]) (.refl _) rfl
theorem vi {m:ao} {i o:Nat} {h v:Nat} (g:h<dR):aO Tryz.prog G 98 #[.pointer (some ⟨i,o,none⟩),.int .u64 h,.int .u64 v] m (.int .u64 (yq h v)):=by
 refine l8 Tryz.func98 fun c h0=>?_
 refine go ?_
 refine aA (kA (V:=0) 0 rfl) ?_
 refine go ?_
 refine fP rfl rfl rfl rfl (hU g) (hU (ki _ _)) rfl ?_
 refine go ?_
 refine dZ rfl rfl rfl kz rfl rfl ?_
 rw[bK]
 refine eM rfl rfl rfl vg rfl rfl ?_
 rw[bK]
 refine go ?_
 refine af ?_
 exact cL [6] rfl (post:=[]) (junk:=[]) (.refl _) rfl
theorem lE {m:ao} {k:Option Addr} {n j:Nat} {x:Nat->Nat} (p:aU (m++G) k n j x) (hb:∀i,x i<256) (h:8<=n):aO Tryz.prog G 83 #[.slice k n j] m (.int .u64 (l7 x)):=by
 obtain⟨g,q⟩:=p
 rcases q with⟨_,h0,_⟩|⟨b,o,B,rfl,l,hf,hg⟩
 ·omega
 ·exact CY G m b o n j B x ⟨l,by have:=hf aa;omega,fun i hi=>hg i aa,hb⟩ h g
theorem HG {m:ao} {j:Option Addr} {n g:Nat} {x:Nat->Nat} (l:aU (m++G) j n g x) (hb:∀i,x i<256) (h:4<=n):aO Tryz.prog G 77 #[.slice j n g] m (.int .u32 (eX x)):=by
 obtain⟨p,q⟩:=l
 rcases q with⟨_,h0,_⟩|⟨b,o,B,rfl,k,hf,hg⟩
 ·omega
 ·exact my G m b o n g B x ⟨k,by have:=hf aa;omega,fun i hi=>hg i aa,hb⟩ h
theorem zO (x:Int) (s:RS):∀j,j<32->ct (wQ x s) (50+j) = .int .u8 (s.xb j)
 | 0,_=>rfl|1,_=>rfl|2,_=>rfl|3,_=>rfl|4,_=>rfl|5,_=>rfl|6,_=>rfl|7,_=>rfl
 | 8,_=>rfl|9,_=>rfl|10,_=>rfl|11,_=>rfl|12,_=>rfl|13,_=>rfl|14,_=>rfl|15,_=>rfl
 | 16,_=>rfl|17,_=>rfl|18,_=>rfl|19,_=>rfl|20,_=>rfl|21,_=>rfl|22,_=>rfl|23,_=>rfl
 | 24,_=>rfl|25,_=>rfl|26,_=>rfl|27,_=>rfl|28,_=>rfl|29,_=>rfl|30,_=>rfl|31,_=>rfl
 | j+32,h=>absurd h aa
theorem HH (x:Int) (s:RS) (g:Nat->Nat):∀i,i<50->ct (wQ x s) i=ct (wQ x { s with xb:=g }) i
 | 0,_=>rfl|1,_=>rfl|2,_=>rfl|3,_=>rfl|4,_=>rfl|5,_=>rfl|6,_=>rfl|7,_=>rfl
 | 8,_=>rfl|9,_=>rfl|10,_=>rfl|11,_=>rfl|12,_=>rfl|13,_=>rfl|14,_=>rfl|15,_=>rfl
 | 16,_=>rfl|17,_=>rfl|18,_=>rfl|19,_=>rfl|20,_=>rfl|21,_=>rfl|22,_=>rfl|23,_=>rfl
 | 24,_=>rfl|25,_=>rfl|26,_=>rfl|27,_=>rfl|28,_=>rfl|29,_=>rfl|30,_=>rfl|31,_=>rfl
 | 32,_=>rfl|33,_=>rfl|34,_=>rfl|35,_=>rfl|36,_=>rfl|37,_=>rfl|38,_=>rfl|39,_=>rfl
 | 40,_=>rfl|41,_=>rfl|42,_=>rfl|43,_=>rfl|44,_=>rfl|45,_=>rfl|46,_=>rfl|47,_=>rfl
 | 48,_=>rfl|49,_=>rfl
 | j+50,h=>absurd h aa
theorem HI (x:Int) (s:RS) (g:Nat->Nat) (j:Nat):ct (wQ x s) (j+82)=ct (wQ x { s with xb:=g }) (j+82):=rfl
theorem vj (x:Int) (s:RS) (c k:Nat) (h:c+k<=32) (src:Nat->Value) (S:Nat->Nat) (hs:∀j,j<k->src j = .int .u8 (S j)) :
  (⟨83,cQ (ct (wQ x s)) (50+c) k src,88,(0,0)⟩:bk).obj=(az x (s.wChk s.xl s.xv (gC s.xb c k S) s.xc)).obj:=by
 refine c9 fun i _=>?_
 show _=ct (wQ x { s with xb:=gC s.xb c k S }) i
 by_cases l:i<50
 ·rw[aP _ _ _ _ _ aa];exact HH x s _ i l
 ·by_cases p:i<82
  ·obtain⟨j,rfl⟩:∃j,i=50+j:=⟨i-50,aa⟩
   rw[zO x { s with xb:=gC s.xb c k S } j aa];by_cases g:c<=j/\j<c+k
   ·rw[bH _ _ _ _ _ aa aa,hs _ aa];simp only[gC,ai g];rw[show 50+j-(50+c)=j-c from aa]
   ·rw[aP _ _ _ _ _ aa,zO x s j aa];simp only[gC,ah g]
  ·obtain⟨j,rfl⟩:∃j,i=j+82:=⟨i-82,aa⟩
   rw[aP _ _ _ _ _ aa];exact HI x s _ j
theorem C6 (x:Int) (s:RS) (l:Nat) (v g b:Nat->Nat) (n:Nat) (h:∀i,i<4->v i=g i):(az x (s.wChk l v b n)).obj=(az x (s.wChk l g b n)).obj:=by
 have h0:=h 0 aa;have k:=h 1 aa;have j:=h 2 aa;have p:=h 3 aa
 unfold az wQ
 dsimp only[RS.wChk]
 rw[h0,k,j,p]
theorem Fm (M:ao) (g:Nat) (x:Int) (s:RS) (h:(g,az x s)∈M) (o:Nat) (j:o<=32):aU M (some ⟨g,50+o,none⟩) (32-o) (32-o) (fun i=>s.xb (o+i)) :=
 ⟨aZ _,.inr ⟨g,50+o,_,rfl,h,fun _=>by show _<=83;omega,fun i hi=>by rw[Nat.add_assoc];exact zO x s (o+i) aa⟩⟩
def HJ:Nat->Nat:=fun i=>[6983438078262162902,14029467366897019727,0,7046029288634856825].getD i 0
def fv (T:Nat->Nat):Nat->Nat->Nat
 | 0,i=>HJ i
 | n+1,i=>jG (fv T n i) (l7 fun j=>T (32*n+(8*i+j)))
theorem jH {T T':Nat->Nat} (n:Nat) (h:∀i,i<32*n->T i=T' i) (i:Nat) (hi:i<4):fv T n i=fv T' n i:=by
 induction n with
 | zero=>rfl
 | succ n g =>
  unfold fv;rw[g (fun i hi=>h i aa)]
  congr 1
  unfold l7 eX;simp only[h (32*n+(8*i+0)) aa,h (32*n+(8*i+1)) aa,h (32*n+(8*i+2)) aa,h (32*n+(8*i+3)) aa,h (32*n+(8*i+(0+4))) aa,h (32*n+(8*i+(1+4))) aa,h (32*n+(8*i+(2+4))) aa,h (32*n+(8*i+(3+4))) aa]
structure yr (s:RS) (T:Nat->Nat) (N:Nat):Prop where
 len:s.xl=N%dR
 acc:∀i,i<4->s.xv i=fv T (N/32) i
 cnt:s.xc=N%32
 buf:∀i,i<N%32->s.xb i=T (32*(N/32)+i)
 byte:∀i,s.xb i<256
theorem yr.congr {s:RS} {T T':Nat->Nat} {N:Nat} (h:yr s T N) (e:∀i,i<N->T i=T' i):yr s T' N :=
 ⟨h.len,fun i hi=>(h.acc i hi).trans (jH _ (fun j g=>e j aa) i hi),h.cnt,fun i hi=>(h.buf i hi).trans (e _ aa),h.byte⟩
theorem C7 {B:bk} {o i:Nat} {v:Value} (h:i≠o):(B.st o v).g i=B.g i:=aT _ _ _ _ h
theorem oZ {m:ao} {h:Nat} {B:bk} {b:Nat->Nat} (hB:∀i,i<32->B.g (50+i) = .int .u8 (b i)) (k:B.n=83) (o:Nat) (j:o<=32):aU (((h,B)::m)++G) (some ⟨h,50+o,none⟩) (32-o) (32-o) (fun i=>b (o+i)) :=
 ⟨aZ _,.inr ⟨h,50+o,B,rfl,List.mem_append.2 (.inl List.mem_cons_self),fun _=>aa,fun i hi=>by rw[Nat.add_assoc];exact hB (o+i) aa⟩⟩
theorem pR (T:Nat->Nat) (n i:Nat):fv T (n+1) i=jG (fv T n i) (l7 fun j=>T (32*n+(8*i+j))):=by rw[fv]
theorem tW {x y:Nat->Nat} (h:∀j,j<8->x j=y j):l7 x=l7 y:=by
 unfold l7 eX
 dsimp only
 rw[h 0 aa,h 1 aa,h 2 aa,h 3 aa,h (0+4) aa,h (1+4) aa,h (2+4) aa,h (3+4) aa]
theorem Fo (x:Int) (s:RS) (l:Nat) (v b:Nat->Nat) (n k j h g:Nat) :
  ((((((az x (s.wChk l v b n)).st (45+1+0) (.int .u64 k)).st (45+1+1) (.int .u64 j)).st (45+1+2) (.int .u64 h)).st (45+1+3) (.int .u64 g)).st (45+37) (.int .i64 0)).obj=(az x (s.wChk l (fun i=>[k,j,h,g].getD i 0) b 0)).obj:=aW rfl rfl rfl rfl
theorem C8 (x:Int) (s:RS) (l:Nat) (v b:Nat->Nat) (n k j h g:Nat) :
  (((((az x (s.wChk l v b n)).st (45+1+0) (.int .u64 k)).st (45+1+1) (.int .u64 j)).st (45+1+2) (.int .u64 h)).st (45+1+3) (.int .u64 g)).obj=(az x (s.wChk l (fun i=>[k,j,h,g].getD i 0) b n)).obj:=aW rfl rfl rfl rfl
theorem Fp (x:Int) (s:RS) (l:Nat):((az x s).st (45+0) (.int .u64 l)).obj=(az x (s.wChk l s.xv s.xb s.xc)).obj:=aW rfl rfl rfl rfl
theorem tX {T v B:Nat->Nat} {n p l h g:Nat} (u:∀i,i<4->v i=fv T n i) (hB:∀i,i<32->B i=T (32*n+i))
  (h0:jG (v 0) (l7 fun i=>B (0+i))=p) (t:jG (v 1) (l7 fun i=>B (8+i))=l) (q:jG (v 2) (l7 fun i=>B (16+i))=h) (r:jG (v 3) (l7 fun i=>B (24+i))=g) :
  ∀i,i<4->[p,l,h,g].getD i 0=fv T (n+1) i:=by
 have hl:∀k,k+8<=32->l7 (fun j=>T (32*n+(k+j)))=l7 fun i=>B (k+i):=fun k y=>tW fun j z=>(hB _ aa).symm
 intro i hi
 rw[pR,<- u i hi,hl (8*i) aa]
 match i,hi with
 | 0,_=>exact h0.symm
 | 1,_=>exact t.symm
 | 2,_=>exact q.symm
 | 3,_=>exact r.symm
set_option maxRecDepth 20000 in
set_option maxHeartbeats 1000000 in
theorem HK (V:Nat) (x:Int) (s:RS) (T S:Nat->Nat) (N bl C:Nat) (oa:Option Addr) (O:ao) (hx:yr s T N) (hv:aU O oa bl C S) (hS:∀i,S i<256) (bc:bl<=2^30) :
  av Tryz.prog G 87 #[.pointer (some ⟨V,45,none⟩),.slice oa bl C] ((V,az x s)::O) (fun _ m =>
   ∃l v b n,yr (s.wChk l v b n) (cB T N S) (N+bl)/\m=(V,az x (s.wChk l v b n))::O):=by
 refine bE Tryz.func87 fun c h0 hex=>?_
 obtain⟨hl,ha,hc,hb,Y⟩:=hx
 have a7:s.xc<32:=aa
 refine go ?_
 refine eM rfl rfl rfl rfl rfl rfl ?_
 rw[bK]
 refine go ?_
 have al:∀B:bk,aU ((V,B)::O++G) oa bl C S:=fun B=>hv.mono fun p hp=>by simp[hp]
 have a9:(N+bl)/32=N/32+(N%32+bl)/32:=aa
 have ax:(s.xl+bl)%dR=(N+bl)%dR:=by rw[hl,Nat.mod_add_mod]
 rw[ax]
 refine bZ (.cons (Fp x s _) (.refl _)) ?_
 refine ac rfl (fun(ba:((s.xc+bl:Nat):Int)<32)=>?_) (fun(bd:¬((s.xc+bl:Nat):Int)<32)=>?_)
 ·have a6:s.xc+bl<32:=aa
  refine go ?_;obtain⟨src,z,u⟩:=(al _).src
  refine jq (s:=0) rfl rfl rfl rfl z (fun j hj=>by rw[u j aa];rfl) .here rfl (by show _<=83;omega) hex rfl ?_
  have hm:min bl (32-s.xc)*(0+1)=bl:=aa
  rw[hm];have W:=vj x (s.wChk ((N+bl)%dR) s.xv s.xb s.xc) s.xc bl aa src S u
  refine cA (.cons W (.refl _)) (fun _ h=>bZ (.cons W (.refl _)) h) ?_
  refine go ?_;refine af ?_;have hd:(N+bl)/32=N/32:=aa
  refine ag [] (junk:=[]) ⟨(N+bl)%dR,s.xv,gC s.xb s.xc bl S,s.xc+bl,⟨rfl,fun i hi=>?_,?_,fun i hi=>?_,fun i=>?_⟩,rfl⟩ rfl (.cons dT (by simpa using aR.refl _))
  ·show s.xv i=_
   rw[ha i hi,hd];refine jH _ (fun j hj=>?_) i hi
   unfold cB;rw[ai aa]
  ·show s.xc+bl=_
   omega
  ·show gC s.xb s.xc bl S i=_
   rw[hd];unfold gC cB;by_cases h1:i<s.xc
   ·rw[ah aa,ai aa,hb i aa]
   ·rw[ai aa,ah aa];congr 1;omega
  ·show gC s.xb s.xc bl S i<256
   unfold gC;split
   ·exact hS _
   ·exact Y _
 have a5:32<=s.xc+bl:=aa
 refine go ?_
 refine bp (σ:=Option Addr×Nat×Nat×Nat×(Nat->Nat)) [0] (fun t=>[(1,.slice t.1 t.2.1 t.2.2.1)]) (fun t=>(V,az x (s.wChk ((N+bl)%dR) (fv (cB T N S) t.2.2.2.1) t.2.2.2.2 0))::O)
  (fun t=>aU O t.1 t.2.1 t.2.2.1 (fun i=>cB T N S (32*t.2.2.2.1+i))/\32*t.2.2.2.1+t.2.1=N+bl/\N<=32*t.2.2.2.1/\∀i,t.2.2.2.2 i<256) ?_ ?_
 ·refine ac rfl (fun(hp:((s.xc:Nat):Int)>0)=>?_) (fun(hz:¬((s.xc:Nat):Int)>0)=>?_)
  ·have a8:0<s.xc:=aa
   refine go ?_;obtain⟨src,z,u⟩:=(al _).src
   refine jq (s:=0) rfl rfl rfl rfl z (fun j hj=>by rw[u j aa];rfl) .here rfl (by show _<=83;omega) hex rfl ?_
   have hm:min bl (32-s.xc)=32-s.xc:=aa
   rw[hm,Nat.zero_add,Nat.mul_one];have W:_=(az x (s.wChk ((N+bl)%dR) s.xv (gC s.xb s.xc (32-s.xc) S) s.xc)).obj:=vj x (s.wChk ((N+bl)%dR) s.xv s.xb s.xc) s.xc (32-s.xc) aa src S (fun j hj=>u j aa)
   refine cA (.cons W (.refl _)) (fun _ h=>bZ (.cons W (.refl _)) h) ?_
   have ad:∀i,i<32->gC s.xb s.xc (32-s.xc) S i=cB T N S (32*(N/32)+i):=fun i hi=>by
    unfold gC cB;by_cases h1:i<s.xc
    ·rw[ah aa,ai aa,hb i aa]
    ·rw[ai aa,ah aa];congr 1;omega
   have F:∀i,gC s.xb s.xc (32-s.xc) S i<256:=fun i=>by
    unfold gC;split
    ·exact hS _
    ·exact Y _
   generalize gC s.xb s.xc (32-s.xc) S=B at ad F ⊢;refine go ?_;refine cT (32-s.xc) bl hv rfl rfl rfl rfl rfl rfl rfl aa hv.le rfl ?_
   have q0:∀i,i<32->(az x (s.wChk ((N+bl)%dR) s.xv B s.xc)).g (50+i) = .int .u8 (B i):=zO x (s.wChk ((N+bl)%dR) s.xv B s.xc)
   refine go ?_;refine aA (lE (oZ q0 rfl 0 (by decide)) (fun _=>F _) (by decide)) ?_
   refine go ?_;refine aA (kA _ rfl) ?_
   generalize a4:jG (s.xv 0) (l7 fun i=>B (0+i))=v0
   refine go ?_;have q:=fun i hi=>(C7 (o:=45+1+0) (v:=.int .u64 v0) (show 50+i≠46 from aa)).trans (q0 i hi)
   refine aA (lE (oZ q rfl 8 (by decide)) (fun _=>F _) (by decide)) ?_
   refine go ?_;refine aA (kA _ rfl) ?_
   generalize r:jG (s.xv 1) (l7 fun i=>B (8+i))=v1
   refine go ?_;have q2:=fun i hi=>(C7 (o:=45+1+1) (v:=.int .u64 v1) (show 50+i≠47 from aa)).trans (q i hi)
   refine aA (lE (oZ q2 rfl 16 (by decide)) (fun _=>F _) (by decide)) ?_
   refine go ?_;refine aA (kA _ rfl) ?_
   generalize a1:jG (s.xv 2) (l7 fun i=>B (16+i))=v2
   refine go ?_;have q3:=fun i hi=>(C7 (o:=45+1+2) (v:=.int .u64 v2) (show 50+i≠48 from aa)).trans (q2 i hi)
   refine aA (lE (oZ q3 rfl 24 (by decide)) (fun _=>F _) (by decide)) ?_
   refine go ?_;refine aA (kA _ rfl) ?_
   generalize a2:jG (s.xv 3) (l7 fun i=>B (24+i))=v3
   refine go ?_;have hT:∀i,i<4->fv T (N/32) i=fv (cB T N S) (N/32) i:=fun i hi=>jH _ (fun j hj=>by unfold cB;rw[ai aa]) i hi
   refine⟨(ek oa (32-s.xc) C,bl-(32-s.xc),C-(32-s.xc),N/32+1,B),⟨?_,?_,(by show N<=32*(N/32+1);omega),F⟩,joined (.cons ?_ (.refl _))⟩
   ·refine(hv.sub (l:=32-s.xc) (h:=bl) aa (aZ _)).congr fun i hi=>?_
    show _=cB T N S (32*(N/32+1)+i)
    unfold cB;rw[ah aa];congr 1;omega
   ·show 32*(N/32+1)+(bl-(32-s.xc))=N+bl
    omega
   ·exact(Fo x s _ _ _ _ _ _ _ _).trans (C6 x s _ _ _ _ _ (tX (fun i hi=>(ha i hi).trans (hT i hi)) ad a4 r a1 a2))
  ·have h0:s.xc=0:=aa
   refine go ?_;refine⟨(oa,bl,C,N/32,s.xb),⟨hv.congr fun i hi=>?_,?_,(by show N<=32*(N/32);omega),Y⟩,joined (.cons ?_ (.refl _))⟩
   ·show _=cB T N S (32*(N/32)+i)
    unfold cB;rw[ah aa];congr 1;omega
   ·show 32*(N/32)+bl=N+bl
    omega
   ·rw[h0];exact C6 x s _ _ _ _ _ fun i hi=>(ha i hi).trans (jH _ (fun j hj=>by unfold cB;rw[ai aa]) i hi)
 ·rintro⟨H,n1,y,q,b1⟩ f ⟨r,J,M,ab⟩;dsimp only at r J M ab ⊢;refine go ?_;refine aH (σ:=Option Addr×Nat×Nat×Nat) [0] (fun t=>[(1,.slice t.1 t.2.1 t.2.2.1)]) (fun t=>(V,az x (s.wChk ((N+bl)%dR) (fv (cB T N S) t.2.2.2) b1 0))::O)
   (fun t=>aU O t.1 t.2.1 t.2.2.1 (fun i=>cB T N S (32*t.2.2.2+i))/\32*t.2.2.2+t.2.1=N+bl/\N<=32*t.2.2.2) (fun t=>t.2.1) (H,n1,y,q) (.refl _) ⟨r,J,M⟩ ?_
  clear r J M H n1 y q;rintro⟨H,n1,y,q⟩ f ⟨r,J,M⟩;dsimp only at r J M ⊢;have K:∀B:bk,aU ((V,B)::O++G) H n1 y (fun i=>cB T N S (32*q+i)):=fun B=>r.mono fun p hp=>by simp[hp]
  have I:∀i,cB T N S (32*q+i)<256:=fun i=>by unfold cB;rw[ah aa];exact hS _
  refine go ?_;refine ac rfl (fun(hg:((n1:Nat):Int) ≥ 32)=>?_) (fun(hg:¬((n1:Nat):Int) ≥ 32)=>?_)
  ·have bb:32<=n1:=aa
   have hV:∀k,k+8<=n1->∀B:bk,aU ((V,B)::O++G) (ek H k y) (n1-k) (y-k) (fun i=>cB T N S (32*q+(k+i))):=fun k hk B=>(K B).sub aa (aZ _)
   have U:=r.le
   refine go ?_;refine aA (lE (K _) I aa) ?_
   refine go ?_;refine aA (kA _ rfl) ?_
   generalize a3:jG (fv (cB T N S) q 0) (l7 fun i=>cB T N S (32*q+i))=v0
   refine go ?_;refine cT 8 n1 r rfl rfl rfl rfl rfl rfl rfl aa U rfl ?_
   refine go ?_;refine aA (lE (hV 8 aa _) (fun i=>I _) aa) ?_
   refine go ?_;refine aA (kA _ rfl) ?_
   generalize aw:jG (fv (cB T N S) q 1) (l7 fun i=>cB T N S (32*q+(8+i)))=v1
   refine go ?_;refine cT 16 n1 r rfl rfl rfl rfl rfl rfl rfl aa U rfl ?_
   refine go ?_;refine aA (lE (hV 16 aa _) (fun i=>I _) aa) ?_
   refine go ?_;refine aA (kA _ rfl) ?_
   generalize am:jG (fv (cB T N S) q 2) (l7 fun i=>cB T N S (32*q+(16+i)))=v2
   refine go ?_;refine cT 24 n1 r rfl rfl rfl rfl rfl rfl rfl aa U rfl ?_
   refine go ?_;refine aA (lE (hV 24 aa _) (fun i=>I _) aa) ?_
   refine go ?_;refine aA (kA _ rfl) ?_
   generalize a0:jG (fv (cB T N S) q 3) (l7 fun i=>cB T N S (32*q+(24+i)))=v3
   refine go ?_;refine cT 32 n1 r rfl rfl rfl rfl rfl rfl rfl aa U rfl ?_
   refine go ?_;refine⟨(ek H 32 y,n1-32,y-32,q+1),(by show n1-32<n1;omega),⟨(r.sub (l:=32) (h:=n1) aa (aZ _)).congr fun i hi=>?_,(by show 32*(q+1)+(n1-32)=N+bl;omega),(by show N<=32*(q+1);omega)⟩,joined (.cons ?_ (.refl _))⟩
   ·show cB T N S (32*q+(32+i))=cB T N S (32*(q+1)+i)
    congr 1;omega
   ·exact(C8 x s _ _ _ _ _ _ _ _).trans (C6 x s _ _ _ _ _ (tX (B:=fun i=>cB T N S (32*q+i)) (fun i hi=>rfl) (fun i hi=>rfl) (by simpa only[Nat.zero_add] using a3) aw am a0))
  ·have hq:(N+bl)/32=q:=aa
   refine go ?_;refine ac rfl (fun(hp:((n1:Nat):Int)>0)=>?_) (fun(hz:¬((n1:Nat):Int)>0)=>?_)
   ·refine go ?_;obtain⟨src,z,u⟩:=(K _).src
    refine jq (s:=0) rfl rfl rfl rfl z (fun j hj=>by rw[u j aa];rfl) .here rfl (by show 45+5+_<=83;omega) hex rfl ?_
    have hm:min n1 32*(0+1)=n1:=aa
    rw[hm];have W:=vj x (s.wChk ((N+bl)%dR) (fv (cB T N S) q) b1 0) 0 n1 aa src _ u
    refine cA (.cons W (.refl _)) (fun _ h=>bZ (.cons W (.refl _)) h) ?_
    refine go ?_;refine bY [] (junk:=[]) ⟨(N+bl)%dR,fv (cB T N S) q,gC b1 0 n1 (fun i=>cB T N S (32*q+i)),n1,⟨rfl,fun i hi=>?_,?_,fun i hi=>?_,fun i=>?_⟩,rfl⟩ rfl (.cons dT (by simpa using aR.refl _))
    ·rw[hq]
    ·show n1=_
     omega
    ·show gC b1 0 n1 (fun i=>cB T N S (32*q+i)) i=_
     rw[hq];unfold gC;rw[ai aa,Nat.sub_zero]
    ·show gC b1 0 n1 (fun i=>cB T N S (32*q+i)) i<256
     unfold gC;split
     ·exact I _
     ·exact ab _
   ·have h0:n1=0:=aa
    refine go ?_;refine bY [] (junk:=[]) ⟨(N+bl)%dR,fv (cB T N S) q,b1,0,⟨rfl,fun i hi=>?_,?_,fun i hi=>?_,ab⟩,rfl⟩ rfl (by simpa using aR.refl _)
    ·rw[hq]
    ·show 0=_
     omega
    ·omega
end Go.Proofs.YtogmacnlpclgkaaGreatDoor
