/- Texts 14. -/
import Derived.Test.YtogmacnlpclgkaaGreatDoorX13
set_option linter.all false
namespace Go.Proofs.YtogmacnlpclgkaaGreatDoor
open Go Go.Eng
attribute [local irreducible] RO J av aO
set_option maxRecDepth 20000
variable {G:ao} {S:bN G} {dat:Nat->Nat} {N:Nat}
def RX.ini (x:RX):RX:={ x with r1:=1,r2:=4,r3:=8,hb:=0,st0:=.slice none 0 0,st1:=.slice none 0 0,st2:=.slice none 0 0 }
theorem HR (s:RS) (scr:Nat->Nat) (T:Nat->Nat):yr (s.setSum scr (some true)) T 0 :=
 ⟨(Nat.zero_mod _).symm,fun _ _=>rfl,rfl,fun i hi=>absurd hi aa,fun _=>by show 0<256;omega⟩
theorem Dd (src:dn S dat N) (hd:∀i,dat i<256) {E:Type} (dz:E->RX->ao->Prop) (ini:E->E) (I:∀e x em,dz e x em->dz (ini e) x.ini em) (rb:Nat) (p:PS E)
  (s:RS) (H Y em:ao) (y:s.rv = .iface src.t src.rv)
  (ab:s.saw=p.saw/\s.sum=p.sum/\s.one=p.one/\s.unk=p.unk/\s.rem=p.rem/\s.off=p.off/\s.wsz=p.wsz) (q:p.rem<dR) (A:∀i,p.S i<256) (u:p.bl<=2^30) (C:p.wsz<=2^30)
  (hb:fS s.buf p.bl p.S H) (hw:nF s.wd p.wsz s.wo p.L p.wl Y) (hx:p.sum=true->yr s p.XT p.XN) (j:dz p.e s.ext em)
  {x':Int} {k:RS} {B:src.σ} {r:ao} {v:Value} (K:src.ok B) (J:∀i,k.scr i<256)
  (M:match dA dat N (bF dat N N p.pos) with
    | .short=>src.pos B=N/\r=Y/\k={ s with one:=s.one||decide (bF dat N N p.pos≠p.pos),scr:=k.scr }/\dM S (if N-bF dat N N p.pos=0/\(s.one||decide (bF dat N N p.pos≠p.pos))=true then .eof else .z) v
    | .bad sum pos=>src.pos B=pos/\r=Y/\k=RS.setSum { s with one:=s.one||decide (bF dat N N p.pos≠p.pos) } k.scr sum/\dM S .z v
    | .ok sum known size win pos=>src.pos B=pos/\v = .nilIface/\dH 1 k.wd 0 (fun _=>undef) r/\k=(RS.setSum { s with one:=s.one||decide (bF dat N N p.pos≠p.pos) } k.scr (some sum)).setHdr known size win k.wd) :
  jV src dz rb (d9 dat N ini p).1 ((rb,az x' k)::(src.mem B++(H++(r++em))))/\so S (d9 dat N ini p).2 v:=by
 obtain⟨f1,f2,U,f4,f5,O,V⟩:=ab
 unfold d9
 split at M
 ·rename_i he
  rw[he];obtain⟨a1,rfl,F,a4⟩:=M;obtain⟨g,l⟩:∃g:Nat->Nat,k={ s with one:=s.one||decide (bF dat N N p.pos≠p.pos),scr:=g }:=⟨_,F⟩
  clear F;subst l;rw[U] at a4;refine⟨⟨x',_,B,H,_,em,rfl,K,a1,y,J,⟨f1,f2,by dsimp only;rw[U],f4,f5,O,V⟩,q,A,u,C,hb,hw,fun h=>⟨(hx h).len,(hx h).acc,(hx h).cnt,(hx h).buf,(hx h).byte⟩,j⟩,?_⟩
  dsimp only;split
  ·rename_i hc
   rw[ai hc] at a4;exact .inr (.inl ⟨rfl,a4⟩)
  ·rename_i hc
   rw[ah hc] at a4;exact .inr (.inr ⟨rfl,.inl a4⟩)
 ·rename_i sum pos he
  rw[he];obtain⟨a1,rfl,F,a4⟩:=M;obtain⟨g,l⟩:∃g:Nat->Nat,k=RS.setSum { s with one:=s.one||decide (bF dat N N p.pos≠p.pos) } g sum:=⟨_,F⟩
  clear F;subst l
  cases sum with
  | none=>exact⟨⟨x',_,B,H,_,em,rfl,K,a1,y,J,⟨f1,f2,by show(s.one||_)=_;rw[U],f4,f5,O,V⟩,q,A,u,C,hb,hw,fun h=>⟨(hx h).len,(hx h).acc,(hx h).cnt,(hx h).buf,(hx h).byte⟩,j⟩,.inr (.inr ⟨rfl,.inl a4⟩)⟩
  | some b=>exact⟨⟨x',_,B,H,_,em,rfl,K,a1,y,J,⟨f1,rfl,by show(s.one||_)=_;rw[U],f4,f5,O,V⟩,q,A,u,C,hb,hw,fun h=>by
    have W:b=true:=h
    subst W;exact HR _ _ _,j⟩,.inr (.inr ⟨rfl,.inl a4⟩)⟩
 ·rename_i sum known size win pos he
  rw[he];obtain⟨a1,a2,F,a4⟩:=M;obtain⟨g,wd',l⟩:∃(g:Nat->Nat) (wd':Value),k=(RS.setSum { s with one:=s.one||decide (bF dat N N p.pos≠p.pos) } g (some sum)).setHdr known size win wd':=⟨_,_,a4⟩
  clear a4;subst l;obtain⟨g1,g2,d,p',g3⟩:=sq dat N he;have g4:size<dR:=by
   have:=Db dat hd d p'
   rw[jb,g3];omega
  refine⟨⟨x',_,B,H,r,em,rfl,K,a1,y,J,⟨rfl,rfl,rfl,rfl,rfl,O,rfl⟩,g4,A,u,by show win<=2^30;omega,hb,
   ⟨fun _=>0,bR F (fun i hi=>absurd hi (by simp)),Nat.zero_le _,aZ _,fun _=>rfl,fun i hi=>absurd hi (Nat.not_lt_zero _)⟩,fun h=>?_,I _ _ _ j⟩,.inl ⟨rfl,a2⟩⟩
  have W:sum=true:=h
  subst W;show yr _ p.XT 0
  exact⟨(Nat.zero_mod _).symm,fun _ _=>rfl,rfl,fun i hi=>absurd (show i<0%32 from hi) aa,fun _=>by show 0<256;omega⟩
def G2 (dat:Nat->Nat) (N:Nat) {E:Type} (can:PS E->Nat->Prop) (p:PS E):Prop :=
 3<=N-p.pos->dB dat p.pos/2%4=2->can { p with pos:=p.pos+3 } (dB dat p.pos/8)
theorem Fu (src:dn S dat N) (hd:∀i,dat i<256) (ab:lU src) {E:Type} (dz:E->RX->ao->Prop) (cmp:PS E->Nat->PS E×Bool) (can:PS E->Nat->Prop) (O:sj src dz cmp can)
  (ini:E->E) (K:∀e x em,dz e x em->dz (ini e) x.ini em) (V:bk) (al:(2,V)∈G) (ad:0<V.n) (am:V.g 0 = .bool false) (hN:N<=2^62)
  (l:Nat) (p:PS E) (m:ao) (hm:jV src dz l p m) (q:(fI dat N ini p).2=0->G2 dat N can (fI dat N ini p).1) :
  av Tryz.prog G 54 #[bf l] m (fun v m'=>jV src dz l (bB dat N ini cmp p).1 m'/\so S (bB dat N ini cmp p).2 v):=by
 have aw:=hm
 obtain⟨x,s,q0,bm,wm,em,rfl,dE,H,B,M,y,C,ax,Y,W,hb,hw,hx,U⟩:=hm
 refine bE Tryz.func54 fun c h0 hex=>?_
 refine go ?_
 refine bp (σ:=PS E×ao) [] (fun _=>[(0,bf l)]) (fun t=>t.2) (fun t=>jV src dz l t.1 t.2/\fI dat N ini p=(t.1,0)) ?_ ?_
 ·refine ei rfl (fun hu=>?_) (fun hu=>?_)
  ·have u:p.saw=false:=by rw[<- y.1];simpa using hu
   have z:fI dat N ini p=d9 dat N ini p:=by unfold fI;rw[ah (by rw[u];decide)]
   obtain⟨ph,F,a0⟩:=hw;refine go ?_;refine ae (HD src hd ab q0 l x s wm p.wl _ dE B M F V al ad am) ?_ (hs:=mH _ _ _ _ _)
   rintro v m ⟨x',s',q',a1,h1,h2,rfl,h3⟩;rw[H] at h3;obtain⟨r1,r2⟩:=Dd src hd dz ini K l p s bm wm em B y C ax Y W hb ⟨ph,F,a0⟩ hx U (x':=x') h1 h2 h3
   refine cA (mH _ _ _ _ _).symm (fun _ h=>bZ (mH _ _ _ _ _).symm h) ?_
   rcases r2 with⟨j,rfl⟩|⟨j,r⟩|⟨j,r⟩
   ·refine go ?_;exact⟨(_,_),⟨r1,by rw[z,<- j]⟩,⟨rfl,trivial⟩,.refl _⟩
   ·have k:bB dat N ini cmp p=d9 dat N ini p:=by unfold bB;rw[z,ah (by rw[j];decide)]
    obtain rfl:v = .iface 183 (.pointer (some ⟨S.eb,S.eo,none⟩)):=r;refine go ?_;exact af (cE [2] (_) (junk:=[]) ⟨by rw[k];exact r1,.inr (.inl ⟨by rw[k];exact j,rfl⟩)⟩ gX)
   ·have k:bB dat N ini cmp p=d9 dat N ini p:=by unfold bB;rw[z,ah (by rw[j];decide)]
    obtain⟨et,b',eo,rfl⟩:=jr.form r;refine go ?_;exact af (cE [2] (_) (junk:=[]) ⟨by rw[k];exact r1,.inr (.inr ⟨by rw[k];exact j,r⟩)⟩ gX)
  ·have u:p.saw=true:=by rw[<- y.1];simpa using hu
   refine go ?_;exact⟨(p,_),⟨aw,by unfold fI;rw[ai u]⟩,⟨rfl,trivial⟩,.refl _⟩
 rintro⟨p1,m1⟩ f ⟨I,z⟩
 dsimp only at I z ⊢
 rw[z] at q
 refine go ?_
 refine ae (HQ src hd dz cmp can O l p1 m1 I hN (q rfl)) ?_ (fm:=[]) (hs:=by rw[List.append_nil];exact .refl _)
 rintro v m ⟨J,hv⟩
 rw[List.append_nil]
 have k:bB dat N ini cmp p=((cD dat N cmp p1).1,if(cD dat N cmp p1).2 then 0 else 2):=by unfold bB;rw[z,ai rfl]
 rcases hv with⟨j,rfl⟩|⟨j,r⟩
 ·refine go ?_;exact af (cE [2] (m) (junk:=[]) ⟨by rw[k];exact J,.inl ⟨by rw[k,j];rfl,rfl⟩⟩ gX)
 ·obtain⟨et,b',eo,rfl⟩:=jr.form r;refine go ?_;exact af (cE [2] (m) (junk:=[]) ⟨by rw[k];exact J,.inr (.inr ⟨by rw[k,j];rfl,r⟩)⟩ gX)
structure Fv (dat:Nat->Nat) (N:Nat) {E:Type} (ini:E->E) (cmp:PS E->Nat->PS E×Bool) (can:PS E->Nat->Prop) (Ok:PS E->Prop):Prop where
 can:∀p,Ok p->(fI dat N ini p).2=0->G2 dat N can (fI dat N ini p).1
 fill:∀p,Ok p->(bB dat N ini cmp p).2=0->Ok { (bB dat N ini cmp p).1 with off:=0 }
 off:∀p k,Ok p->Ok { p with off:=k }
theorem J0 (x:Int) (s:RS):((az x s).st 8 (.int .i64 0)).obj=(az x (s.wOff 0)).obj:=aW rfl rfl rfl rfl
theorem Jj (x:Int) (s:RS) (n:Nat):((az x s).st 8 (.int .i64 n)).obj=(az x (s.wOff n)).obj:=aW rfl rfl rfl rfl
theorem zQ (src:dn S dat N) (hd:∀i,dat i<256) (ab:lU src) {E:Type} (dz:E->RX->ao->Prop) (cmp:PS E->Nat->PS E×Bool) (can:PS E->Nat->Prop) (V:sj src dz cmp can) (hgo:gP N cmp)
  (ini:E->E) (O:∀e x em,dz e x em->dz (ini e) x.ini em) (Y:bk) (am:(2,Y)∈G) (al:0<Y.n) (ax:Y.g 0 = .bool false) (hN:N<=2^62)
  (Ok:PS E->Prop) (H:Fv dat N ini cmp can Ok) (u:Nat) (p:PS E) (m:ao) (hm:jV src dz u p m) (hp:Ok p) :
  av Tryz.prog G 50 #[bf u] m (fun v m'=>jV src dz u (bh dat N ini cmp (N+1) p).1 m'/\so S (bh dat N ini cmp (N+1) p).2 v /\
   ((bh dat N ini cmp (N+1) p).2=0->Ok (bh dat N ini cmp (N+1) p).1/\(bh dat N ini cmp (N+1) p).1.off<(bh dat N ini cmp (N+1) p).1.bl)):=by
 refine bE Tryz.func50 fun c h0 hex=>?_
 refine go ?_
 refine aH (σ:=PS E×ao) [] (fun _=>[(0,bf u)]) (fun t=>t.2) (fun t=>jV src dz u t.1 t.2/\Ok t.1/\bh dat N ini cmp (N+1) p=bh dat N ini cmp (N+1) t.1) (fun t=>N-t.1.pos) (p,m) (.refl _) ⟨hm,hp,rfl⟩ ?_
 rintro⟨p1,m1⟩ f ⟨y,q,M⟩
 dsimp only at y q M ⊢
 have K:=y
 obtain⟨x,s,q0,bm,wm,em,rfl,dE,bc,br,bd,a5,bb,bt,bq,bo,hb,hw,hx,be⟩:=y
 obtain⟨oa,cp,C,-⟩:=vk hb
 have r:=a5.2.2.2.2.2.1
 obtain⟨s,rfl⟩:∃s':RS,s=(s'.wBuf (.slice oa p1.bl cp)).wOff p1.off:=⟨s,by cases s;simp only at C r;rw[C,r]⟩
 refine go ?_
 refine ac rfl (fun bs=>?_) (fun I=>?_)
 ·have B:¬p1.off<p1.bl:=aa
  refine go ?_;refine ae (Fu src hd ab dz cmp can V ini O Y am al ax hN u p1 _ K (H.can p1 q)) ?_ (fm:=[]) (hs:=by rw[List.append_nil];exact .refl _)
  rintro v m2 ⟨z,hv⟩;rw[List.append_nil];rcases hv with⟨k,rfl⟩|⟨k,he⟩|⟨k,he⟩
  ·have I:=lF dat N ini cmp hgo p1 k
   have aw:=mC dat N ini cmp hgo p1 B k
   have J:=H.fill p1 q k
   obtain⟨x2,s2,q2,U,W,F,rfl,a1,a2,a3,a4,⟨b1,b2,b3,b4,b5,b6,b7⟩,a6,a7,a8,a9,ad,a0,j,ba⟩:=z;refine go ?_;exact⟨({ (bB dat N ini cmp p1).1 with off:=0 },(u,az x2 (s2.wOff 0))::(src.mem q2++(U++(W++F)))),I,⟨⟨x2,_,q2,U,W,F,rfl,a1,a2,a3,a4,⟨b1,b2,b3,b4,b5,rfl,b7⟩,a6,a7,a8,a9,ad,a0,fun h=>⟨(j h).len,(j h).acc,(j h).cnt,(j h).buf,(j h).byte⟩,ba⟩,J,M.trans aw⟩,⟨rfl,trivial⟩,.cons (J0 _ _) (.refl _)⟩
  ·have l:=M.trans (gQ dat N ini cmp p1 B (by rw[k];decide))
   obtain rfl:v = .iface 183 (.pointer (some ⟨S.eb,S.eo,none⟩)):=he;refine go ?_;exact af (cE [2] (_) (junk:=[]) ⟨by rw[l];exact z,.inr (.inl ⟨by rw[l];exact k,rfl⟩),fun h=>by rw[l,k] at h;exact absurd h (by decide)⟩ gX)
  ·have l:=M.trans (gQ dat N ini cmp p1 B (by rw[k];decide))
   obtain⟨et,b',eo,rfl⟩:=jr.form he;refine go ?_;exact af (cE [2] (_) (junk:=[]) ⟨by rw[l];exact z,.inr (.inr ⟨by rw[l];exact k,he⟩),fun h=>by rw[l,k] at h;exact absurd h (by decide)⟩ gX)
 ·have B:p1.off<p1.bl:=aa
  have l:=M.trans (mD dat N ini cmp p1 B)
  refine go ?_;exact af (cE [2] (_) (junk:=[]) ⟨by rw[l];exact K,.inl ⟨by rw[l],rfl⟩,fun _=>by rw[l];exact⟨q,B⟩⟩ gX)
theorem HS (src:dn S dat N) (hd:∀i,dat i<256) (a1:lU src) {E:Type} (dz:E->RX->ao->Prop) (cmp:PS E->Nat->PS E×Bool) (can:PS E->Nat->Prop) (ad:sj src dz cmp can) (hgo:gP N cmp)
  (ini:E->E) (Y:∀e x em,dz e x em->dz (ini e) x.ini em) (fb:bk) (a6:(2,fb)∈G) (a3:0<fb.n) (a7:fb.g 0 = .bool false) (hN:N<=2^62)
  (Ok:PS E->Prop) (U:Fv dat N ini cmp can Ok) (M:Nat) (p:PS E) (m:ao) (hm:jV src dz M p m) (hp:Ok p) (pb z n cap:Nat) (B:bk) (a5:B.fr=(0,0)) (ho:z+n<=B.n) (hn:n<=2^40) :
  av Tryz.prog G 44 #[bf M,.slice (some ⟨pb,z,none⟩) n cap] ((pb,B)::m) (fun v m'=>∃H e,jV src dz M (a_ dat N ini cmp n p).1 H /\
   m'=(pb,⟨B.n,cQ B.g z (a_ dat N ini cmp n p).2.1 (dw (iX dat N ini cmp p)),B.T,B.fr⟩)::H/\v = .tuple #[.int .i64 ((a_ dat N ini cmp n p).2.1:Nat),e]/\so S (a_ dat N ini cmp n p).2.2 e /\
   ((a_ dat N ini cmp n p).2.2=0->Ok (a_ dat N ini cmp n p).1)):=by
 refine bE Tryz.func44 fun c h0 hex=>?_
 refine go ?_
 refine ae (zQ src hd a1 dz cmp can ad hgo ini Y fb a6 a3 a7 hN Ok U M p m hm hp) ?_ (fm:=[(pb,B)]) (hs:=jE _ _)
 rintro v H ⟨y,hv,hk⟩
 unfold a_ iX
 generalize bh dat N ini cmp (N+1) p=r at y hv hk ⊢
 refine cA (jE _ _).symm (fun _ h=>bZ (jE _ _).symm h) ?_
 rcases hv with⟨u,rfl⟩|⟨u,he⟩|⟨u,he⟩
 ·obtain⟨F,a4⟩:=hk u;simp only[u,if_true]
  obtain⟨p1,k⟩:=r;dsimp only at y u F a4 ⊢;obtain⟨x,s,q0,bm,wm,em,rfl,dE,W,a2,ab,q,O,a8,a0,aw,hb,hw,hx,al⟩:=y;obtain⟨oa,cp,K,J⟩:=vk hb;have C:=q.2.2.2.2.2.1
  obtain⟨s,rfl⟩:∃s':RS,s=(s'.wBuf (.slice oa p1.bl cp)).wOff p1.off:=⟨s,by cases s;simp only at K C;rw[K,C]⟩
  have I:=J []
  have ax:=I.le
  refine go ?_;refine cT p1.off p1.bl I rfl rfl rfl rfl rfl rfl rfl aa ax rfl ?_
  obtain⟨sf,am,V⟩:=(I.sub (l:=p1.off) (h:=p1.bl) aa (aZ _)).src
  refine go ?_;refine jq (s:=0) (k:=p1.bl-p1.off) (src:=sf) rfl rfl rfl rfl (am.imp (fun⟨b,o,cp,B,h1,h2,h3,h4⟩=>⟨b,o,cp,B,h1,by rw[List.append_nil] at h2;simp[h2],h3,h4⟩) id) (fun j hj=>by rw[V j aa];rfl) .here a5 aa hex rfl ?_
  rw[show min (p1.bl-p1.off) n=min n (p1.bl-p1.off) from Nat.min_comm _ _];have k1:min n (p1.bl-p1.off)<=n:=Nat.min_le_left _ _
  have k2:min n (p1.bl-p1.off)<=p1.bl-p1.off:=Nat.min_le_right _ _
  generalize min n (p1.bl-p1.off)=kk at *;refine go ?_;refine af ?_;refine ag [4,5] (post:=(pb,⟨B.n,cQ B.g z kk (dw fun i=>p1.S (p1.off+i)),B.T,B.fr⟩)::(M,az x ((s.wBuf (.slice oa p1.bl cp)).wOff (p1.off+kk)))::(src.mem q0++(bm++(wm++em)))) (junk:=[])
   ⟨_,.nilIface,?_,rfl,rfl,.inl ⟨rfl,rfl⟩,fun _=>U.off _ _ F⟩ rfl ?_
  ·exact⟨x,_,q0,bm,wm,em,rfl,dE,W,a2,ab,⟨q.1,q.2.1,q.2.2.1,q.2.2.2.1,q.2.2.2.2.1,rfl,q.2.2.2.2.2.2⟩,O,a8,a0,aw,hb,hw,fun h=>⟨(hx h).len,(hx h).acc,(hx h).cnt,(hx h).buf,(hx h).byte⟩,al⟩
  ·rw[List.append_nil];refine .cons (c9 fun i _=>?_) (.cons (Jj _ _ _) (.refl _))
   show cQ B.g z (kk*(0+1)) sf i=cQ B.g z kk (dw fun i=>p1.S (p1.off+i)) i
   rw[show kk*(0+1)=kk from aa];by_cases hi:z<=i/\i<z+kk
   ·rw[bH _ _ _ _ _ hi.1 hi.2,bH _ _ _ _ _ hi.1 hi.2,V _ aa];rfl
   ·rw[aP _ _ _ _ _ aa,aP _ _ _ _ _ aa]
 ·rw[ah (by rw[u];decide)]
  obtain rfl:v = .iface 183 (.pointer (some ⟨S.eb,S.eo,none⟩)):=he;refine go ?_;refine af ?_;refine ag [4,5] (post:=(pb,B)::H) (junk:=[]) ⟨H,_,y,by rw[eY],rfl,.inr (.inl ⟨u,rfl⟩),fun h=>?_⟩ rfl gX
  dsimp only at h;rw[u] at h;exact absurd h (by decide)
 ·rw[ah (by rw[u];decide)]
  obtain⟨et,b',eo,rfl⟩:=jr.form he;refine go ?_;refine af ?_;refine ag [4,5] (post:=(pb,B)::H) (junk:=[]) ⟨H,_,y,by rw[eY],rfl,.inr (.inr ⟨u,he⟩),fun h=>?_⟩ rfl gX
  dsimp only at h;rw[u] at h;exact absurd h (by decide)
theorem wV (S:bN G) (k:Nat) (v:Value) (l:so S k v):av Tryz.prog G 43 #[v] [] (fun r m=>m=[]/\r=ay k):=by
 refine bE Tryz.func43 fun c h0 hex=>?_
 obtain⟨i,hi,j⟩:=lz
 rcases l with⟨rfl,rfl⟩|⟨rfl,g⟩|⟨rfl,g⟩
 ·refine go ?_;exact af (ag [2] ⟨rfl,rfl⟩)
 ·obtain rfl:v = .iface 183 (.pointer (some ⟨S.eb,S.eo,none⟩)):=g;refine go ?_;refine aK rfl rfl (by simp[S.e0]) S.e0n S.e0g rfl ?_
  refine go ?_;refine gn (r:=true) (B:=S.E1) (B':=S.E1) rfl rfl rfl rfl hi j rfl (.inl ⟨rfl,by simp⟩) rfl ?_
  refine go ?_;exact af (ag [2] ⟨rfl,rfl⟩)
 ·rcases g with⟨b',rfl⟩|g
  ·refine go ?_;refine aK rfl rfl (by simp[S.e0]) S.e0n S.e0g rfl ?_
   refine go ?_;refine wu rfl rfl rfl rfl rfl ?_
   refine go ?_;exact af (ag [2] ⟨rfl,rfl⟩)
  ·obtain rfl:v = .iface 183 (.pointer (some ⟨S.ub,S.uo,none⟩)):=g;refine go ?_;refine aK rfl rfl (by simp[S.e0]) S.e0n S.e0g rfl ?_
   refine go ?_;refine gn (r:=false) (B:=S.U1) (B':=S.E1) rfl rfl rfl rfl hi j rfl ?_ rfl ?_
   ·by_cases hb:S.ub=S.eb
    ·exact .inl ⟨hb,by have:=S.ne.resolve_left (fun h=>h hb);simp[this]⟩
    ·exact .inr ⟨hb,rfl,by simp[S.u1],by simp[S.e1],S.u1f,S.e1f⟩
   refine go ?_;exact af (ag [2] ⟨rfl,rfl⟩)
theorem De (src:dn S dat N) (hd:∀i,dat i<256) (U:lU src) {E:Type} (dz:E->RX->ao->Prop) (cmp:PS E->Nat->PS E×Bool) (can:PS E->Nat->Prop) (J:sj src dz cmp can) (hgo:gP N cmp)
  (ini:E->E) (H:∀e x em,dz e x em->dz (ini e) x.ini em) (M:bk) (V:(2,M)∈G) (Y:0<M.n) (W:M.g 0 = .bool false) (hN:N<=2^62)
  (Ok:PS E->Prop) (O:Fv dat N ini cmp can Ok) (K:Nat) (p:PS E) (m:ao) (hm:jV src dz K p m) (hp:Ok p) (n:Nat) (hn:n<=2^40) :
  av Tryz.prog G 36 #[bf K,ay n] m (fun v m'=>∃u b B,jV src dz K (a_ dat N ini cmp n p).1 u/\m'=(b,B)::u /\
   v = .agg #[.int .i64 ((a_ dat N ini cmp n p).2.1:Nat),.slice (bi b) (a_ dat N ini cmp n p).2.1 n,.int .i64 ((a_ dat N ini cmp n p).2.2:Nat)]/\B.fr=(0,0)/\n<=B.n/\(a_ dat N ini cmp n p).2.1<=n /\
   (∀i,i<(a_ dat N ini cmp n p).2.1->B.g i=dw (iX dat N ini cmp p) i)/\((a_ dat N ini cmp n p).2.2=0->Ok (a_ dat N ini cmp n p).1)):=by
 refine bE Tryz.func36 fun c h0 hex=>?_
 refine go ?_
 refine aC z43 rfl hex fun F ab=>?_
 refine go ?_
 refine ac rfl (fun I=>absurd I aa) (fun _=>?_)
 refine go ?_
 refine gm (len:=n) (cap:=n) rfl rfl rfl rfl z5 (by decide) (aZ _) hn hex rfl fun b hb=>?_
 refine go ?_
 refine ae (HS src hd U dz cmp can J hgo ini H M V Y W hN Ok O K p m hm hp b 0 n n ⟨n*(0+1),bQ [.int .u8 0],5,(0,0)⟩ rfl (by show _<=n*(0+1);omega) hn) ?_
 rintro v m' ⟨u,e,q,rfl,rfl,C,j⟩
 have l:(a_ dat N ini cmp n p).2.1<=n:=by
  unfold a_;split
  ·exact Nat.min_le_left _ _
  ·exact Nat.zero_le _
 generalize a_ dat N ini cmp n p=r at q C j l ⊢
 generalize iX dat N ini cmp p=D
 obtain⟨p2,k,code⟩:=r
 dsimp only at q C j l ⊢
 refine cA (jE _ _).symm (fun _ h=>bZ (jE _ _).symm h) ?_
 rcases C with⟨rfl,rfl⟩|⟨rfl,y⟩|⟨rfl,y⟩
 ·have C:so S 0 (.nilIface):=.inl ⟨rfl,rfl⟩
  refine go ?_;refine ls rfl rfl rfl ?_
  rw[ah aa];refine go ?_;refine rW rfl rfl rfl ?_
  rw[show(if((k:Nat):Int)>0 then((k:Nat):Int) else 0)=((k:Nat):Int) by split<;>omega]
  refine go ?_;refine ae (wV S _ _ C) ?_
  rintro v m ⟨rfl,rfl⟩;refine go ?_;refine bU (vs:=[ay k,.slice (bi b) k n,.int .i64 ((0:Nat):Int)]) rfl rfl z43 rfl rfl rfl rfl ?_
  refine go ?_;refine ak (s:=2) (vs:=[ay k,.slice (bi b) k n,.int .i64 ((0:Nat):Int)]) rfl rfl rfl rfl (cC rfl) .here (aZ 3) rfl hex ?_
  refine go ?_;refine af ?_;refine cH [.cell 4 43] [.agg #[ay k,.slice (bi b) k n,.int .i64 ((0:Nat):Int)]] ⟨⟨F,0,2,_,rfl,rfl,rfl,List.mem_cons_self,aZ 3,rfl⟩,trivial⟩ (post:=(b,_)::u) (junk:=[(F,⟨3,cQ (ct [.int .i64 0,.slice none 0 0,.int .i64 0]) 0 3 (ct [ay k,.slice (bi b) k n,.int .i64 ((0:Nat):Int)]),43,(0,0)⟩)]) ⟨u,b,_,q,rfl,rfl,rfl,by show n<=n*(0+1);omega,l,fun i hi=>?_,j⟩ rfl (jE _ _)
  show cQ _ 0 k _ i=_
  rw[bH _ _ _ _ _ aa aa];rfl
 ·obtain rfl:e = .iface 183 (.pointer (some ⟨S.eb,S.eo,none⟩)):=y;have C:so S 1 (.iface 183 (.pointer (some ⟨S.eb,S.eo,none⟩))):=.inr (.inl ⟨rfl,rfl⟩)
  refine go ?_;refine ls rfl rfl rfl ?_
  rw[ah aa];refine go ?_;refine rW rfl rfl rfl ?_
  rw[show(if((k:Nat):Int)>0 then((k:Nat):Int) else 0)=((k:Nat):Int) by split<;>omega]
  refine go ?_;refine ae (wV S _ _ C) ?_
  rintro v m ⟨rfl,rfl⟩;refine go ?_;refine bU (vs:=[ay k,.slice (bi b) k n,.int .i64 ((1:Nat):Int)]) rfl rfl z43 rfl rfl rfl rfl ?_
  refine go ?_;refine ak (s:=2) (vs:=[ay k,.slice (bi b) k n,.int .i64 ((1:Nat):Int)]) rfl rfl rfl rfl (cC rfl) .here (aZ 3) rfl hex ?_
  refine go ?_;refine af ?_;refine cH [.cell 4 43] [.agg #[ay k,.slice (bi b) k n,.int .i64 ((1:Nat):Int)]] ⟨⟨F,0,2,_,rfl,rfl,rfl,List.mem_cons_self,aZ 3,rfl⟩,trivial⟩ (post:=(b,_)::u) (junk:=[(F,⟨3,cQ (ct [.int .i64 0,.slice none 0 0,.int .i64 0]) 0 3 (ct [ay k,.slice (bi b) k n,.int .i64 ((1:Nat):Int)]),43,(0,0)⟩)]) ⟨u,b,_,q,rfl,rfl,rfl,by show n<=n*(0+1);omega,l,fun i hi=>?_,j⟩ rfl (jE _ _)
  show cQ _ 0 k _ i=_
  rw[bH _ _ _ _ _ aa aa];rfl
 ·obtain⟨et,b',eo,rfl⟩:=jr.form y;have C:so S 2 (.iface et (.pointer (some ⟨b',eo,none⟩))):=.inr (.inr ⟨rfl,y⟩)
  refine go ?_;refine ls rfl rfl rfl ?_
  rw[ah aa];refine go ?_;refine rW rfl rfl rfl ?_
  rw[show(if((k:Nat):Int)>0 then((k:Nat):Int) else 0)=((k:Nat):Int) by split<;>omega]
  refine go ?_;refine ae (wV S _ _ C) ?_
  rintro v m ⟨rfl,rfl⟩;refine go ?_;refine bU (vs:=[ay k,.slice (bi b) k n,.int .i64 ((2:Nat):Int)]) rfl rfl z43 rfl rfl rfl rfl ?_
  refine go ?_;refine ak (s:=2) (vs:=[ay k,.slice (bi b) k n,.int .i64 ((2:Nat):Int)]) rfl rfl rfl rfl (cC rfl) .here (aZ 3) rfl hex ?_
  refine go ?_;refine af ?_;refine cH [.cell 4 43] [.agg #[ay k,.slice (bi b) k n,.int .i64 ((2:Nat):Int)]] ⟨⟨F,0,2,_,rfl,rfl,rfl,List.mem_cons_self,aZ 3,rfl⟩,trivial⟩ (post:=(b,_)::u) (junk:=[(F,⟨3,cQ (ct [.int .i64 0,.slice none 0 0,.int .i64 0]) 0 3 (ct [ay k,.slice (bi b) k n,.int .i64 ((2:Nat):Int)]),43,(0,0)⟩)]) ⟨u,b,_,q,rfl,rfl,rfl,by show n<=n*(0+1);omega,l,fun i hi=>?_,j⟩ rfl (jE _ _)
  show cQ _ 0 k _ i=_
  rw[bH _ _ _ _ _ aa aa];rfl
section
variable {E:Type} {ini:E->E} {cmp:PS E->Nat->PS E×Bool}
theorem kj (l:gP N cmp):∀f (p:PS E),(bh dat N ini cmp f p).2=0->((bh dat N ini cmp f p).1=p\/N-(bh dat N ini cmp f p).1.pos<N-p.pos)/\(bh dat N ini cmp f p).1.off<(bh dat N ini cmp f p).1.bl
 | 0,p,h=>absurd h (by show ¬(2:Nat)=0;decide)
 | f+1,p,h=>by
  rw[gp] at h ⊢;by_cases j:p.off<p.bl
  ·rw[ai j];exact⟨.inl rfl,j⟩
  ·rw[ah j] at h ⊢;by_cases i:(bB dat N ini cmp p).2=0
   ·rw[ai i] at h ⊢;have k:=lF dat N ini cmp l p i
    obtain⟨g,q⟩:=kj l f _ h;refine⟨.inr ?_,q⟩
    rcases g with g|g
    ·rw[g];exact k
    ·exact Nat.lt_trans g k
   ·rw[ah i] at h;exact absurd h i
def vn (N:Nat) (p:PS E):Nat:=(N-p.pos)*2147483648+(p.bl-p.off)
theorem wW (j:gP N cmp) (n:Nat) (k:0<n) (p:PS E) (h:(a_ dat N ini cmp n p).2.2=0) (hb:(a_ dat N ini cmp n p).1.bl<=2^30):vn N (a_ dat N ini cmp n p).1<vn N p:=by
 unfold a_ at h hb ⊢
 by_cases h0:(bh dat N ini cmp (N+1) p).2=0
 ·obtain⟨g,i⟩:=kj j (N+1) p h0
  rw[ai h0] at hb ⊢;dsimp only at hb ⊢;unfold vn;dsimp only;rcases g with g|g
  ·rw[g] at i ⊢;omega
  ·omega
 ·rw[ah h0] at h;exact absurd h h0
theorem wY (n:Nat) (p:PS E) (h:(a_ dat N ini cmp n p).2.2≠0):(a_ dat N ini cmp n p).2.1=0:=by
 unfold a_ at h ⊢
 split at h
 ·exact absurd rfl h
 ·rename_i h0;rw[ah h0]
end
theorem J2 (x y:Nat×bk) (m j s:ao):aR ((x::y::(m++j))++s) (m++(s++(x::y::j))):=by
 have h:((x::y::(m++j))++s).Perm (m++(s++(x::y::j))):=by
  have g:(x::y::(m++j))++s=[x,y]++(m++(j++s)):=by simp
  rw[g];refine(pA [x,y] m (j++s)).trans (List.Perm.append_left m ?_)
  rw[<- List.append_assoc];exact List.perm_append_comm
 exact .of_perm h
structure J3 (E:Type) where
 p:PS E
 m:ao
 om:ao
 j:ao
 oa:Option Addr
 cp:Nat
 O:Nat->Nat
 ol:Nat
set_option maxHeartbeats 1000000 in
theorem Df (src:dn S dat N) (hd:∀i,dat i<256) (a1:lU src) {E:Type} (dz:E->RX->ao->Prop) (cmp:PS E->Nat->PS E×Bool) (can:PS E->Nat->Prop) (a0:sj src dz cmp can) (hgo:gP N cmp)
  (ini:E->E) (ax:∀e x em,dz e x em->dz (ini e) x.ini em) (fb:bk) (a5:(2,fb)∈G) (a3:0<fb.n) (a7:fb.g 0 = .bool false) (hN:N<=2^62)
  (Ok:PS E->Prop) (a4:Fv dat N ini cmp can Ok) (Y:Nat) (p:PS E) (m:ao) (hm:jV src dz Y p m) (hp:Ok p) (r:(Nat->Nat)×Nat×Bool) (O0:Nat->Nat) (hr:kK dat N ini cmp 4096 p O0 0 r) (hl:r.2.1<=2^39) :
  av Tryz.prog G 31 #[bf Y] m (fun v V=>∃out,v = .tuple #[out,.bool r.2.2]/\dH 1 out r.2.1 (dw r.1) V):=by
 refine bE Tryz.func31 fun c h0 hex=>?_
 refine go ?_
 refine aH (σ:=J3 E) [] (fun t=>[(0,bf Y),(4,.slice t.oa t.ol t.cp)]) (fun t=>t.m++(t.om++t.j))
  (fun t=>jV src dz Y t.p t.m/\Ok t.p/\dH 1 (.slice t.oa t.ol t.cp) t.ol (dw t.O) t.om/\kK dat N ini cmp 4096 t.p t.O t.ol r) (fun t=>vn N t.p) ⟨p,m,[],[],none,0,O0,0⟩ (by simpa using aR.refl m) ⟨hm,hp,.inl ⟨rfl,rfl,rfl⟩,hr⟩ ?_
 rintro⟨p1,m1,V,U,oa,cp,O,l⟩ f ⟨aw,ad,al,cJ⟩
 dsimp only at aw ad al cJ ⊢
 have be:=cJ.ge
 refine go ?_
 refine ae (De src hd a1 dz cmp can a0 hgo ini ax fb a5 a3 a7 hN Ok a4 Y p1 m1 aw ad 4096 aa) ?_ (fm:=V++U) (hs:=.refl _)
 rintro v m' ⟨m2,b,B,C,rfl,rfl,bd,bc,hk,hg,u⟩
 have J:=wW (dat:=dat) (ini:=ini) hgo 4096 aa p1
 have H:=cJ.next
 have K:=cJ.last
 have hz:=wY (dat:=dat) (N:=N) (ini:=ini) (cmp:=cmp) 4096 p1
 generalize iX dat N ini cmp p1=D at hg H
 generalize a_ dat N ini cmp 4096 p1=rr at C hk hg u J H K hz ⊢
 obtain⟨p2,k,code⟩:=rr
 dsimp only at C hk hg u J H K hz ⊢
 have a6:l+k<=2^40:=aa
 have ab:p2.bl<=2^30:=by
  obtain⟨_,_,_,_,_,_,_,_,_,_,_,_,_,_,h,_⟩:=C;exact h
 refine go ?_
 refine aC z43 rfl hex fun cb bm=>?_
 refine go ?_
 refine ak (s:=2) (vs:=[ay k,.slice (bi b) k 4096,ay code]) rfl rfl rfl rfl (cC rfl) .here (aZ 3) rfl hex ?_
 refine go ?_
 refine bj (m':=(cb,aj [ay k,.slice (bi b) k 4096,ay code] 43)::(b,B)::(m2++(V++U))) ci ?_
 refine go ?_
 refine bg (s:=0) (src:=fun j=>B.g (0+j)) (k:=k) (len:=l) (v:=.slice oa l cp) (cl:=dw O) (sm:=V) (fm:=(cb,aj [ay k,.slice (bi b) k 4096,ay code] 43)::(b,B)::(m2++U)) rfl rfl rfl rfl z5 (by decide) rfl rfl al
  (pA ((cb,aj [ay k,.slice (bi b) k 4096,ay code] 43)::(b,B)::m2) V U) (k_.of (B:=B) (by simp) aa) (fun j hj=>by rw[Nat.zero_add,hg j aa];rfl) a6 hex rfl ?_
 intro v' am M a9
 obtain⟨F,y,rfl⟩:=bV M
 refine go ?_
 refine ac rfl (fun ba=>?_) (fun bb=>?_)
 ·have I:code≠0:=aa
  have a8:=hz I
  have a2:=K I
  subst a8 a2
  refine go ?_;refine af ?_;refine ag [2,3] (post:=am) (junk:=(cb,aj [.int .i64 ((0:Nat):Int),.slice (bi b) 0 4096,ay code] 43)::(b,B)::(m2++U)) ⟨.slice F (l+0) y,?_,bR M fun i hi=>?_⟩ rfl (.of_perm List.perm_append_comm)
  ·show Value.tuple #[.slice F (l+0) y,.bool (decide (((code:Nat):Int)=1))]=Value.tuple #[.slice F (l+0) y,.bool (decide (code=1))]
   rw[show decide (((code:Nat):Int)=1)=decide (code=1) by rw[decide_eq_decide];omega]
  ·rw[ai aa]
 ·have q:code=0:=aa
  refine go ?_;refine⟨⟨p2,m2,am,(cb,_)::(b,B)::U,F,y,cB O l D,l+k⟩,J q ab,⟨C,u q,bR M fun i hi=>?_,H q⟩,cF,J2 _ _ _ _ _⟩
  have hi:i<(l+k)*(0+1):=hi
  show _=dw (cB O l D) i
  unfold cB dw;by_cases W:i<l
  ·rw[ai aa];dsimp only;rw[ai W]
  ·rw[ah aa];dsimp only;rw[ah W,Nat.zero_add,show i-l*(0+1)=i-l from aa,hg _ aa];rfl
end Go.Proofs.YtogmacnlpclgkaaGreatDoor
namespace Go.Proofs.YtogmacnlpclgkaaGreatDoor
open Go Go.Eng
set_option maxRecDepth 4000
section
variable {E:Type} {dat:Nat->Nat} {N:Nat} {ini:E->E} {cmp:PS E->Nat->PS E×Bool}
structure IU (dat:Nat->Nat) (N:Nat) (tx:Nat->Nat) (L n hl:Nat) (sum:Bool) (win x:Nat):Prop where
 hdr:dA dat N (bF dat N N 0) = .ok sum true n win hl
 blk:dB dat hl=8*L+1
 txt:∀i,i<L->dat (hl+3+i)=tx i
 len:N=hl+3+L+(if sum then 4 else 0)
 le:L<=131072
 win:win=0\/L<=win
 sm:sum=true->eX (fun i=>dat (hl+3+L+i))=x
theorem o6 (dat:Nat->Nat) (N:Nat):bF dat N N N=N:=by
 cases N with
 | zero=>rfl
 | succ n =>
  unfold bF ck e_;rw[ah];simp
theorem rG (dat:Nat->Nat) (N:Nat):dA dat N N = .short:=by
 unfold dA;rw[ai aa]
theorem Jk (tx:Nat->Nat):∀k (p:PS E) (O:Nat->Nat),p.bl-p.off=k->p.saw=false->p.pos=N->p.one=true->p.off<=p.bl->(∀i,i<p.bl->p.S i=tx i)->(∀i,i<p.off->O i=tx i) ->
  ∃l,kK dat N ini cmp 4096 p O p.off (l,p.bl,true)/\∀i,i<p.bl->l i=tx i:=by
 intro k
 induction k using Nat.strongRecOn with
 | _ k F =>
  intro p O I hs q r H t y;by_cases h:p.off<p.bl
  ·have u:=mD dat N ini cmp p h
   have j:a_ dat N ini cmp 4096 p=({ p with off:=p.off+min 4096 (p.bl-p.off) },min 4096 (p.bl-p.off),0):=by
    unfold a_;rw[u];rfl
   have hg:iX dat N ini cmp p=fun i=>p.S (p.off+i):=by unfold iX;rw[u]
   obtain⟨l,z,C⟩:=F (p.bl-(p.off+min 4096 (p.bl-p.off))) aa { p with off:=p.off+min 4096 (p.bl-p.off) } (cB O p.off (iX dat N ini cmp p)) rfl hs q r (by dsimp only;omega) t (by
    intro i hi;dsimp only at hi;unfold cB;split
    ·exact y i ‹_›
    ·rw[hg];dsimp only;rw[show p.off+(i-p.off)=i from aa];exact t i aa)
   refine⟨l,.step p O p.off _ (by rw[j]) ?_,C⟩
   rw[show(a_ dat N ini cmp 4096 p).1={ p with off:=p.off+min 4096 (p.bl-p.off) } by rw[j],show(a_ dat N ini cmp 4096 p).2.1=min 4096 (p.bl-p.off) by rw[j]]
   exact z
  ·have g:p.off=p.bl:=aa
   have A:d9 dat N ini p=({ p with pos:=N,one:=true },1):=by
    unfold d9;rw[q,o6,rG];dsimp only;rw[r,Bool.true_or,ai ⟨Nat.sub_self _,rfl⟩]
   have B:fI dat N ini p=({ p with pos:=N,one:=true },1):=by
    unfold fI;rw[ah (by rw[hs];decide),A]
   have hf:bB dat N ini cmp p=({ p with pos:=N,one:=true },1):=by
    unfold bB;rw[B,ah (by show ¬(1:Nat)=0;decide)]
   have j:(a_ dat N ini cmp 4096 p).2.2=1:=by
    unfold a_;rw[gQ dat N ini cmp p h (by rw[hf];exact Nat.one_ne_zero),hf,ah (by show ¬(1:Nat)=0;decide)]
   refine⟨O,?_,fun i hi=>y i aa⟩
   have:=kK.stop (dat:=dat) (N:=N) (ini:=ini) (cmp:=cmp) (n:=4096) p O p.off (by rw[j];decide)
   rw[j,g] at this;rw[g];exact this
variable {tx:Nat->Nat} {L n hl:Nat} {sum:Bool} {win x:Nat}
theorem Dg (h:IU dat N tx L n hl sum win x) (p:PS E) (hs:p.saw=false) (g:p.pos=0) :
  fI dat N ini p=({ p with pos:=hl,saw:=true,sum:=sum,one:=true,unk:=false,rem:=n,wl:=0,wsz:=win,XN:=0,e:=ini p.e },0):=by
 unfold fI d9
 rw[hs,ah (by decide),g,h.hdr]
 rfl
theorem wZ {v g:Nat->Nat} (h:∀i,i<4->v i=g i) (l:Nat):iW v l=iW g l:=by
 unfold iW Fq
 rw[h 0 aa,h 1 aa,h 2 aa,h 3 aa]
theorem ua {T T':Nat->Nat} {L:Nat} (h:∀i,i<L->T i=T' i):gw T L=gw T' L:=by
 unfold gw
 rw[wZ (fun i hi=>jH (L/32) (fun j g=>h j aa) i hi),qM fun i hi=>h (32*(L/32)+i) aa]
theorem Bl (p:PS E) (L:Nat) (j:3<=N-p.pos) (hb:dB dat p.pos=8*L+1) (l:L<=131072) (i:¬(0<p.wsz/\p.wsz<L)) (k:L<=N-(p.pos+3)) :
  cD dat N cmp p=cO dat N true { p with pos:=p.pos+3+L,S:=ov p.S L dat (p.pos+3),bl:=L }:=by
 have hsz:(8*L+1)/8=L:=aa
 have h:(8*L+1)/2%4=0:=aa
 have g:min L (N-(p.pos+3))=L:=aa
 have hl:decide ((8*L+1)%2≠0)=true:=by rw[decide_eq_true_iff];omega
 unfold cD
 rw[ah aa]
 dsimp only
 rw[hb,ah aa,ai h,ah aa,hl,hsz,g]
theorem w6 (h:IU dat N tx L n hl sum win x) (p:PS E) (hs:p.saw=false) (A:p.pos=0) :
  (bB dat N ini cmp p).2=(if n=L/\(sum=true->x=gw tx L%4294967296) then 0 else 2) /\
  ((bB dat N ini cmp p).2=0->(bB dat N ini cmp p).1.saw=false/\(bB dat N ini cmp p).1.pos=N/\(bB dat N ini cmp p).1.one=true/\(bB dat N ini cmp p).1.bl=L/\∀i,i<L->(bB dat N ini cmp p).1.S i=tx i):=by
 have hlen:=h.len
 have t:=h.le
 have u:=h.win
 obtain⟨P,k⟩:∃P:PS E,P={ p with pos:=hl+3+L,saw:=true,sum:=sum,one:=true,unk:=false,rem:=n,S:=ov p.S L dat (hl+3),bl:=L,wl:=0,wsz:=win,XN:=0,e:=ini p.e }:=⟨_,rfl⟩
 have z:bB dat N ini cmp p=((cO dat N true P).1,if(cO dat N true P).2 then 0 else 2):=by
  unfold bB;rw[Dg h p hs A,ai rfl,Bl _ L (by dsimp only;split at hlen<;>omega) h.blk t (by dsimp only;omega) (by dsimp only;split at hlen<;>omega),k]
 have p1:P.unk=false:=by rw[k]
 have p2:P.rem=n:=by rw[k]
 have p3:P.bl=L:=by rw[k]
 have p4:P.sum=sum:=by rw[k]
 have p5:P.pos=hl+3+L:=by rw[k]
 have p6:P.XN=0:=by rw[k]
 have p7:P.one=true:=by rw[k]
 have l:∀i,i<L->P.S i=tx i:=fun i hi=>by rw[k];show ov p.S L dat (hl+3) i=_;unfold ov;rw[ai hi];exact h.txt i hi
 clear k
 have hx:gw (cB P.XT 0 P.S) L=gw tx L:=ua fun i hi=>by
  unfold cB;rw[ah (Nat.not_lt_zero _),Nat.sub_zero];exact l i hi
 rw[z]
 by_cases C:n<L
 ·have j:cO dat N true P=(P,false):=by unfold cO;rw[ai ⟨p1,aa⟩]
  have g:(if n=L/\(sum=true->x=gw tx L%4294967296) then(0:Nat) else 2)=2:=ah fun h=>aa
  rw[j,g];exact⟨rfl,fun h=>absurd h (by show ¬(2:Nat)=0;decide)⟩
 by_cases r:n=L
 ·cases sum with
  | false =>
   have j:cO dat N true P=({ P with rem:=P.rem-P.bl,saw:=false },true):=by
    unfold cO;rw[ah aa];dsimp only;rw[ah (by decide),p1,p4]
    simp only[Bool.false_eq_true,if_false,if_true]
    rw[ah aa]
   have g:(if n=L/\(false=true->x=gw tx L%4294967296) then(0:Nat) else 2)=0:=ai ⟨r,fun h=>absurd h (by decide)⟩
   rw[j,g];exact⟨rfl,fun _=>⟨rfl,by simp only[Bool.false_eq_true,if_false] at hlen;dsimp only;omega,p7,p3,l⟩⟩
  | true =>
   simp only[if_true] at hlen
   have j:cO dat N true P=(if x=gw tx L%4294967296 then({ P with rem:=P.rem-P.bl,XT:=cB P.XT P.XN P.S,XN:=P.XN+P.bl,pos:=P.pos+4,saw:=false },true) else({ P with rem:=P.rem-P.bl,XT:=cB P.XT P.XN P.S,XN:=P.XN+P.bl,pos:=P.pos+4 },false)):=by
    unfold cO;rw[ah aa];dsimp only;rw[ah (by decide),p1,p4]
    simp only[Bool.false_eq_true,if_false,if_true]
    rw[ah aa,ah (by decide),ah aa]
    have B:eX (fun i=>dat (P.pos+i))=x:=by rw[p5];exact h.sm rfl
    have y:gw (cB P.XT P.XN P.S) (P.XN+P.bl)=gw tx L:=by rw[p6,p3,Nat.zero_add];exact hx
    rw[B,y]
   by_cases q:x=gw tx L%4294967296
   ·rw[ai q] at j;have g:(if n=L/\(true=true->x=gw tx L%4294967296) then(0:Nat) else 2)=0:=ai ⟨r,fun _=>q⟩
    rw[j,g];exact⟨rfl,fun _=>⟨rfl,by dsimp only;omega,p7,p3,l⟩⟩
   ·rw[ah q] at j;have g:(if n=L/\(true=true->x=gw tx L%4294967296) then(0:Nat) else 2)=2:=ah fun h=>q (h.2 rfl)
    rw[j,g];exact⟨rfl,fun h=>absurd h (by show ¬(2:Nat)=0;decide)⟩
 ·have j:(cO dat N true P).2=false:=by
   unfold cO;rw[ah aa];dsimp only;rw[ah (by decide),p1]
   simp only[Bool.false_eq_true,if_false]
   rw[ai ⟨trivial,aa⟩]
  have g:(if n=L/\(sum=true->x=gw tx L%4294967296) then(0:Nat) else 2)=2:=ah fun h=>r h.1
  rw[j,g];exact⟨rfl,fun h=>absurd h (by show ¬(2:Nat)=0;decide)⟩
theorem Fw (H:gP N cmp) (h:IU dat N tx L n hl sum win x) (p:PS E) (hs:p.saw=false) (u:p.pos=0) (hb:¬p.off<p.bl) (O:Nat->Nat) :
  ∃r,kK dat N ini cmp 4096 p O 0 r/\r.2.2=decide (n=L/\(sum=true->x=gw tx L%4294967296))/\(r.2.2=true->r.2.1=L/\∀i,i<L->r.1 i=tx i)/\r.2.1<=L:=by
 obtain⟨j,y⟩:=w6 (ini:=ini) (cmp:=cmp) h p hs u
 by_cases hg:n=L/\(sum=true->x=gw tx L%4294967296)
 ·rw[ai hg] at j;obtain⟨a1,z,F,a4,A⟩:=y j;have t:=mC dat N ini cmp H p hb j
  obtain⟨B,q,C⟩:=Jk (dat:=dat) (N:=N) (ini:=ini) (cmp:=cmp) tx _ { (bB dat N ini cmp p).1 with off:=0 } O rfl a1 z F (Nat.zero_le _) (fun i hi=>A i (by rw[<- a4];exact hi)) (fun i hi=>absurd hi (Nat.not_lt_zero _))
  have g:a_ dat N ini cmp 4096 p=a_ dat N ini cmp 4096 { (bB dat N ini cmp p).1 with off:=0 }:=by
   unfold a_;rw[t]
  have k:iX dat N ini cmp p=iX dat N ini cmp { (bB dat N ini cmp p).1 with off:=0 }:=by
   unfold iX;rw[t]
  refine⟨(B,(bB dat N ini cmp p).1.bl,true),?_,by rw[decide_eq_true hg],fun _=>⟨a4,fun i hi=>C i (by dsimp only;omega)⟩,Nat.le_of_eq a4⟩
  by_cases h0:(a_ dat N ini cmp 4096 p).2.2=0
  ·have l:=q.next (by rw[<- g];exact h0)
   refine .step p O 0 _ h0 ?_
   rw[g,k];exact l
  ·have l:=q.last (by rw[<- g];exact h0)
   rw[l,<- g];exact .stop p O 0 h0
 ·rw[ah hg] at j;have g:(a_ dat N ini cmp 4096 p).2.2=2:=by
   unfold a_;rw[gQ dat N ini cmp p hb (by rw[j];decide),ah (by rw[j];decide),j]
  refine⟨_,.stop p O 0 (by rw[g];decide),?_,?_,Nat.zero_le _⟩
  ·rw[g,decide_eq_false hg];rfl
  ·rw[g];intro h;exact absurd h (by show ¬decide ((2:Nat)=1)=true;decide)
end
theorem HT {dat:Nat->Nat} {N p:Nat} (h:bw dat p=4247762216):bF dat N N p=p:=by
 cases N with
 | zero=>rfl
 | succ k=>unfold bF ck e_;rw[h,ah (by simp)]
def G3:Nat->Nat:=fun i=>[40,181,47,253,32,2,17,0,0,104,105].getD i 0
theorem Fx {dat:Nat->Nat} (g:∀i,i<11->dat i=G3 i):IU dat 11 (fun i=>[104,105].getD i 0) 2 2 6 false 2 0:=by
 have k:dat 0=40:=g 0 aa
 have t:dat 1=181:=g 1 aa
 have l:dat 2=47:=g 2 aa
 have p:dat 3=253:=g 3 aa
 have r:dat 4=32:=g 4 aa
 have q:dat 5=2:=g 5 aa
 have u:dat 6=17:=g 6 aa
 have d7:dat 7=0:=g 7 aa
 have d8:dat 8=0:=g 8 aa
 have j:bw dat 0=4247762216:=by unfold bw eX;simp only[Nat.zero_add,k,t,l,p]
 have hA:cJ 32=1:=by decide
 have hsz:eW dat 32 5=2:=by
  unfold eW;rw[ah (by decide),ai (by decide),q]
 refine⟨?_,?_,fun i hi=>?_,rfl,aa,.inr aa,fun h=>absurd h (by decide)⟩
 ·rw[HT j];unfold dA;rw[ah aa,ah (by rw[j];decide),ah aa]
  dsimp only;rw[Nat.zero_add,r,ah (by decide),hA,ah aa,show gO dat (0+5+aQ 32) (aB 32)=true from rfl,ah (by decide)]
  rw[show 0+5+aQ 32+aB 32=5 from rfl,hsz,show dg 32=false from rfl,show(bC 32 != 0)=true from rfl,show aD 32=true from rfl,ai rfl]
  rfl
 ·unfold dB;simp only[Nat.reduceAdd,u,d7,d8]
 ·match i,hi with
  | 0,_=>exact g 9 aa
  | 1,_=>exact g 10 aa
end Go.Proofs.YtogmacnlpclgkaaGreatDoor
namespace Go.Proofs.YtogmacnlpclgkaaGreatDoor
open Go Go.Eng
attribute [local irreducible] RO J av aO
set_option maxRecDepth 20000
variable {G:ao} {dat:Nat->Nat} {N:Nat}
def PS.init {E:Type} (e:E):PS E where
 pos:=0
 saw:=false
 sum:=false
 one:=false
 unk:=false
 rem:=0
 S:=fun _=>0
 bl:=0
 off:=0
 L:=fun _=>0
 wl:=0
 wsz:=0
 XT:=fun _=>0
 XN:=0
 e:=e
theorem sr (S:bN G) (g:Option Addr) (j k:Nat) (q:aU G g N j dat) (u:N<2^60) {E:Type} (dz:E->RX->ao->Prop) (l:E) (r:dz l RS.zero.ext []) (p:Nat) :
  jV (fH S dat g N j k q u) dz p (PS.init l) ((p,az 0 (RS.zero.reset (.iface 58 (bf k)) (.slice none 0 0)))::[(k,tD g N j 0)]) :=
 ⟨0,_,(0:Nat),[],[],[],rfl,Nat.zero_le _,rfl,rfl,fun _=>by show 0<256;omega,⟨rfl,rfl,rfl,rfl,rfl,rfl,rfl⟩,oY,fun _=>by show 0<256;omega,Nat.zero_le _,Nat.zero_le _,
  .inl ⟨rfl,rfl,rfl,fun _=>rfl⟩,⟨fun _=>0,.inl ⟨rfl,rfl,rfl⟩,Nat.zero_le _,aZ _,fun _=>rfl,fun i hi=>absurd hi (Nat.not_lt_zero _)⟩,fun h=>absurd (show false=true from h) (by decide),r⟩
theorem ss (S:bN G) (hd:∀i,dat i<256) (j:Option Addr) (k:Nat) (B:aU G j N k dat) (z:N<2^60) {E:Type} (dz:E->RX->ao->Prop) (cmp:PS E->Nat->PS E×Bool) (can:PS E->Nat->Prop) (q:∀h,sj (fH S dat j N k h B z) dz cmp can) (hgo:gP N cmp)
  (ini:E->E) (p:∀e x em,dz e x em->dz (ini e) x.ini em) (y:bk) (F:(2,y)∈G) (I:0<y.n) (H:y.g 0 = .bool false)
  (Ok:PS E->Prop) (C:Fv dat N ini cmp can Ok) (u:E) (Y:dz u RS.zero.ext []) (O:Ok (PS.init u)) (r:(Nat->Nat)×Nat×Bool) (K:Nat->Nat) (W:kK dat N ini cmp 4096 (PS.init u) K 0 r) (hl:r.2.1<=2^39) :
  av Tryz.prog G 19 #[.slice j N k] [] (fun v J=>∃out,v = .tuple #[out,.bool r.2.2]/\dH 1 out r.2.1 (dw r.1) J):=by
 refine bE Tryz.func19 fun c h0 hex=>?_
 refine go ?_
 refine ae (uZ j N k) ?_
 rintro v m ⟨h,rfl,rfl⟩
 refine go ?_
 refine ae (kh G 58 (bf h)) ?_
 rintro v m ⟨M,rfl,rfl⟩
 refine go ?_
 refine ae (Df (fH S dat j N k h B z) hd (rE S dat hd j N k h B z) dz cmp can (q h) hgo ini p y F I H aa Ok C M _ _ (sr S j k h B z dz u Y M) O r K W hl) ?_ (fm:=[]) (hs:=.refl _)
 rintro v J ⟨out,rfl,l⟩
 obtain⟨U,V,rfl⟩:=bV l
 rw[List.append_nil]
 refine go ?_
 exact af (cE [2,3] (J) (junk:=[]) ⟨_,rfl,l⟩ gX)
def vo:PS Unit->Nat->PS Unit×Bool:=fun p _=>(p,false)
theorem G4:gP N vo:=fun _ _ h=>absurd (show false=true from h) (by decide)
theorem HU {tx:Nat->Nat} {L n hl:Nat} {sum:Bool} {win x:Nat} (h:IU dat N tx L n hl sum win x) :
  Fv dat N (fun e:Unit=>e) vo (fun _ _=>False) (fun p=>p.saw=false/\(p.pos=0\/p.pos=N)) where
 can:=by
  rintro p ⟨hs,i⟩ h0;by_cases g:p.pos=0
  ·rw[Dg h p hs g];intro _ j;dsimp only at j;rw[h.blk] at j;omega
  ·have i:=i.resolve_left g
   exfalso
   unfold fI at h0;rw[ah (by rw[hs];decide)] at h0
   unfold d9 at h0;rw[i,o6,rG] at h0;dsimp only at h0;split at h0<;>omega
 fill:=by
  rintro p ⟨hs,i⟩ h0;by_cases g:p.pos=0
  ·obtain⟨a1,l,_⟩:=(w6 (ini:=fun e:Unit=>e) (cmp:=vo) h p hs g).2 h0
   exact⟨a1,.inr l⟩
  ·have i:=i.resolve_left g
   exfalso
   have k:(fI dat N (fun e:Unit=>e) p).2≠0:=by
    unfold fI;rw[ah (by rw[hs];decide)]
    unfold d9;rw[i,o6,rG];dsimp only;split<;>omega
   unfold bB at h0;rw[ah k] at h0;exact k h0
 off:=fun _ _ h=>h
theorem Bm (S:bN G) (hd:∀i,dat i<256) (t:Option Addr) (y:Nat) (I:aU G t N y dat) (j:bk) (k:(2,j)∈G) (u:0<j.n) (q:j.g 0 = .bool false)
  {tx:Nat->Nat} {L n hl:Nat} {sum:Bool} {win x:Nat} (h:IU dat N tx L n hl sum win x) (H:N<2^60) :
  av Tryz.prog G 19 #[.slice t N y] [] (fun v B=>∃out l D,v = .tuple #[out,.bool (decide (n=L/\(sum=true->x=gw tx L%4294967296)))]/\dH 1 out l (dw D) B /\
   ((n=L/\(sum=true->x=gw tx L%4294967296))->l=L/\∀i,i<L->D i=tx i)):=by
 obtain⟨r,C,z,F,M⟩:=Fw (ini:=fun e:Unit=>e) G4 h (PS.init ()) rfl rfl (by show ¬(0:Nat)<0;omega) (fun _=>0)
 have J:=h.le
 refine(ss S hd t y I H (fun(_:Unit) _ em=>em=[]) vo (fun _ _=>False) (fun K=>fun _ _ _ _ _ hf=>absurd hf id) G4 (fun e=>e) (fun _ _ _ h=>h) j k u q _ (HU h) () rfl ⟨rfl,.inl rfl⟩ r (fun _=>0) C aa).mono ?_
 rintro v B ⟨out,rfl,p⟩
 refine⟨out,r.2.1,r.1,by rw[z],p,fun hg=>?_⟩
 exact F (by rw[z,decide_eq_true hg])
end Go.Proofs.YtogmacnlpclgkaaGreatDoor
