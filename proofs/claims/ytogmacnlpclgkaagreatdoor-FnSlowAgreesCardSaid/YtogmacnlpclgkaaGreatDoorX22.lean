/- Texts 22. -/
import Derived.Test.YtogmacnlpclgkaaGreatDoorX21
set_option linter.all false
namespace Go.Proofs.YtogmacnlpclgkaaGreatDoor
open Go Go.Eng Go.Pz
attribute [local irreducible] RO J av aO
set_option maxRecDepth 20000
variable {G:ao} {d:Nat->Nat}
abbrev RS.w0K (s:RS) (st tb:Value) (sb:Nat) (fs:Value):RS:={ s with st0:=st,tb0:=tb,sb0:=sb,fs:=fs }
abbrev RS.w1K (s:RS) (st tb:Value) (sb:Nat) (fs:Value):RS:={ s with st1:=st,tb1:=tb,sb1:=sb,fs:=fs }
abbrev RS.w2K (s:RS) (st tb:Value) (sb:Nat) (fs:Value):RS:={ s with st2:=st,tb2:=tb,sb2:=sb,fs:=fs }
def RS.wKd (s:RS) (kd:Nat) (st tb:Value) (sb:Nat) (fs:Value):RS:=if kd=0 then s.w0K st tb sb fs else if kd=1 then s.w1K st tb sb fs else s.w2K st tb sb fs
theorem jc {p:Nat->Prop} {kd:Nat} (i:kd<=2) (h0:p 0) (h:p 1) (j:p 2):p kd:=by
 have g:kd=0\/kd=1\/kd=2:=aa
 rcases g with rfl|rfl|rfl<;>assumption
section
variable {s:RS} {x:Int} {kd:Nat} {st tb fs v:Value} {sb:Nat}
theorem Js (h:kd<=2):(az x (s.wKd kd st tb sb fs)).g (0+19+kd)=st:=jc (p:=fun kd=>(az x (s.wKd kd st tb sb fs)).g (0+19+kd)=st) h rfl rfl rfl
theorem qT (h:kd<=2):(az x (s.wKd kd st tb sb fs)).g (0+25+kd)=tb:=jc (p:=fun kd=>(az x (s.wKd kd st tb sb fs)).g (0+25+kd)=tb) h rfl rfl rfl
theorem zX (h:kd<=2):(az x (s.wKd kd st tb sb fs)).g (0+44)=fs:=jc (p:=fun kd=>(az x (s.wKd kd st tb sb fs)).g (0+44)=fs) h rfl rfl rfl
theorem p_ (g:kd<=2):((az x (s.wKd kd st tb sb fs)).st (0+19+kd) v).obj=(az x (s.wKd kd v tb sb fs)).obj:=jc (p:=fun kd=>((az x (s.wKd kd st tb sb fs)).st (0+19+kd) v).obj=(az x (s.wKd kd v tb sb fs)).obj) g dT dT dT
theorem vz (g:kd<=2):((az x (s.wKd kd st tb sb fs)).st (0+25+kd) v).obj=(az x (s.wKd kd st v sb fs)).obj:=jc (p:=fun kd=>((az x (s.wKd kd st tb sb fs)).st (0+25+kd) v).obj=(az x (s.wKd kd st v sb fs)).obj) g dT dT dT
theorem qa (g:kd<=2) (y:Nat):((az x (s.wKd kd st tb sb fs)).st (0+22+kd) (.int .u8 (y:Nat))).obj=(az x (s.wKd kd st tb y fs)).obj:=jc (p:=fun kd=>((az x (s.wKd kd st tb sb fs)).st (0+22+kd) (.int .u8 (y:Nat))).obj=(az x (s.wKd kd st tb y fs)).obj) g dT dT dT
theorem yA (g:kd<=2):((az x (s.wKd kd st tb sb fs)).st (0+44) v).obj=(az x (s.wKd kd st tb sb v)).obj:=jc (p:=fun kd=>((az x (s.wKd kd st tb sb fs)).st (0+44) v).obj=(az x (s.wKd kd st tb sb v)).obj) g dT dT dT
end
def IV (kd:Nat):FuncId:=if kd=0 then 118 else if kd=1 then 120 else 122
theorem Du (kd:Nat) (U:kd<=2) (S:bN G) (J:ij G 4 fA) (I:ij G 5 fB) (l t q:Nat) (x:Int) (s:RS) (off:Int) (L F H:Nat) (k j:bk) (i bt C:Nat->Nat) (M:H4 k.g L i bt C) (r:L*3<=k.n) (u:L*4<=j.n) (y:j.fr=(0,0)) (K:L<=512) (lW:∀p,p<L->i p<256) (B:∀p,p<L->bt p<256/\C p<65536)
  (h:(∀p,p<L->i p<=dF kd)\/0<L/\dF kd<i 0) :
  av Tryz.prog G (IV kd) #[bf l,.int .i64 off,.slice (bi t) L F,.slice (bi q) L H] [(l,az x s),(t,k),(q,j)] (fun v m =>
   if 0<L/\dF kd<i 0 then dM S .z v/\m=[(l,az x s),(t,k),(q,j)]
   else v = .nilIface/\∃g,v7 g L (fun p=>cX kd (i p) (bt p) (C p))/\m=[(l,az x s),(t,k),(q,⟨j.n,g,j.T,(0,0)⟩)]):=by
 have O:kd=0\/kd=1\/kd=2:=aa
 rcases O with rfl|rfl|rfl
 ·exact FJ S J l t q x s off L F H k j i bt C M r u y K lW B h
 ·exact FG S l t q x s off L F H k j i bt C M r u y K lW B h
 ·exact FK S I l t q x s off L F H k j i bt C M r u y K lW B h
structure Jt (kd pb:Nat) (I:bk):Prop where
 n:I.n=15
 g0:I.g (0+kd*5+0) = .slice (bi pb) (2^(gh kd).log) (2^(gh kd).log)
 g1:I.g (0+kd*5+1) = .int .i64 ((gh kd).log:Nat)
 g2:I.g (0+kd*5+2) = .int .i64 (dF kd:Nat)
 g3:I.g (0+kd*5+3) = .int .i64 (dD kd:Nat)
 g4:I.g (0+kd*5+4) = .func (.func (IV kd)) #[] #[]
 f:I.fr=(0,0)
set_option maxHeartbeats 4000000 in
theorem sL (kd:Nat) (F:kd<=2) (S:bN G) (bd:ij G 4 fA) (bc:ij G 5 fB) (O:Nat) (x:Int) (s:RS) (da:Option Addr) (n cp:Nat) (hd:∀i,d i<256) (hv:aU G da n cp d) (hn:n<=2^20) (off mode:Nat) (a9:off<=n) (cq:mode<4) (st tb:Value) (sb:Nat) (fs:Value) (t:Option eQ) (sm fm:ao) (hs:yz kd st tb sb t sm) (am:Bt fs fm) :
  av Tryz.prog G 101 #[bf O,.slice da n cp,ay off,ay kd,.int .u8 (mode:Nat)] ((O,az x (s.wKd kd st tb sb fs))::(sm++fm)) (FL S kd O x (s.wKd kd) st sb t (ep t kd mode d n off)):=by
 refine bE Tryz.func101 fun c h0 hex=>?_
 obtain⟨R,W⟩:∃R,R=ep t kd mode d n off:=⟨_,rfl⟩
 rw[<- W]
 unfold ep at W
 refine go ?_
 refine ar (H_ (G:=G)) ?_ (fm:=(O,az x (s.wKd kd st tb sb fs))::(sm++fm)) (hs:=.refl _)
 rintro v m ⟨_,_,_,ma,mb,mc,⟨b0,B0,rfl,rfl,x1,x2,x3⟩,⟨b1,B1,rfl,rfl,y1,y2,y3⟩,⟨b2,B2,rfl,rfl,z1,z2,z3⟩,rfl,rfl⟩
 refine go ?_
 refine aC z207 rfl hex fun cb cS=>?_
 refine go ?_
 refine ak (s:=14) (vs:=xm (.slice (bi b0) 64 64) (.slice (bi b1) 32 32) (.slice (bi b2) 64 64)) rfl rfl rfl rfl (cC rfl) .here (aZ 15) rfl hex ?_
 obtain⟨I,hI⟩:∃I,I=aj (xm (.slice (bi b0) 64 64) (.slice (bi b1) 32 32) (.slice (bi b2) 64 64)) 207:=⟨_,rfl⟩
 obtain⟨pb,PB,pr,a6,b6,w2,w3⟩:∃pb PB pr,([(b0,B0)]++([(b1,B1)]++[(b2,B2)])).Perm ((pb,PB)::pr)/\Jt kd pb I/\PB.n=2^(gh kd).log*4/\v7 PB.g (2^(gh kd).log) (gh kd).cell:=by
  have h3:kd=0\/kd=1\/kd=2:=aa
  rcases h3 with rfl|rfl|rfl
  ·exact⟨b0,B0,[(b1,B1),(b2,B2)],.refl _,by rw[hI];exact⟨rfl,rfl,rfl,rfl,rfl,rfl,rfl⟩,x2,x3⟩
  ·exact⟨b1,B1,[(b0,B0),(b2,B2)],an,by rw[hI];exact⟨rfl,rfl,rfl,rfl,rfl,rfl,rfl⟩,y2,y3⟩
  ·exact⟨b2,B2,[(b0,B0),(b1,B1)],an,by rw[hI];exact⟨rfl,rfl,rfl,rfl,rfl,rfl,rfl⟩,z2,z3⟩
 obtain⟨Y,M,rfl,V,ht⟩:=hs
 refine cA (m':=(O,az x (s.wKd kd st tb sb fs))::(cb,I)::(Y++(M++(fm++((pb,PB)::pr))))) ?hM ?hQ ?W
 case hM =>
  refine aR.trans (.cons (B':=I) (by rw[hI];exact aW rfl rfl rfl rfl) (.refl _)) (.of_perm ?_)
  classical
  refine List.perm_iff_count.2 fun a=>?_
  have:=a6.count_eq a
  simp only[List.count_append,List.count_cons,List.count_nil] at this ⊢
  omega
 case hQ =>
  intro f h;refine bZ ?_ h
  refine aR.trans (.cons (B':=I) (by rw[hI];exact aW rfl rfl rfl rfl) (.refl _)) (.of_perm ?_)
  classical
  refine List.perm_iff_count.2 fun a=>?_
  have:=a6.count_eq a
  simp only[List.count_append,List.count_cons,List.count_nil] at this ⊢
  omega
 clear hI a6 x1 x2 x3 y1 y2 y3 z1 z2 z3
 obtain⟨cN,i0,i1,i2,i3,i4,c1⟩:=b6
 obtain⟨PL,a1⟩:∃PL,PL=(gh kd).log:=⟨_,rfl⟩
 have cw:PL<=6:=by rw[a1];show(if kd=1 then 5 else 6)<=6;split<;>omega
 rw[<- a1] at i0 i1 w2 w3
 have c3:∀j,j<5->0+kd*5+j<I.n:=fun j hj=>aa
 have H:∀{s:RS} (k j:Nat),k<=25->j<=2->0+k+j<(az x s).n:=fun{_} k j h1 h2=>by show 0+k+j<83;omega
 refine go ?_
 refine ac rfl (fun bs=>?_) (fun bs=>?_)
 ·rw[ai aa] at W;subst W;refine go ?_;refine bD (v:=.slice (bi pb) (2^PL) (2^PL)) rfl rfl rfl rfl .here (H 19 kd aa F) rfl hex ?_
  refine cA (.cons (p_ F) (.refl _)) (fun _ h=>bZ (.cons (p_ F) (.refl _)) h) ?_
  refine go ?_;refine bD (v:=.int .u8 (PL:Nat)) rfl rfl rfl rfl .here (H 22 kd aa F) rfl hex ?_
  refine cA (.cons (qa F PL) (.refl _)) (fun _ h=>bZ (.cons (qa F PL) (.refl _)) h) ?_
  refine go ?_;refine af ?_;refine ag [10,11] (post:=(O,az x (s.wKd kd (.slice (bi pb) (2^PL) (2^PL)) tb PL fs))::((Y++[(pb,PB)])++fm)) (junk:=(cb,I)::(M++pr)) ⟨_,_,Y++[(pb,PB)],_,fm,⟨Y,[(pb,PB)],rfl,V,rfl,pb,2^PL,PB,by rw[a1],by simp,by rw[<- a1];exact w3,by rw[<- a1];omega,.inr rfl⟩,am,rfl,by rw[a1]⟩ rfl (.of_perm an)
 rw[ah aa] at W
 refine go ?_
 refine ac rfl (fun b3=>?_) (fun b3=>?_)
 ·rw[ai aa] at W;refine go ?_;refine ac rfl (fun cn=>?_) (fun cr=>?_)
  ·rw[ai aa] at W;subst W;refine go ?_;refine ae (eZ S O x _ _) ?_ (fm:=_) (hs:=.refl _)
   rintro v m ⟨⟨b',rfl⟩,rfl⟩;refine go ?_;exact af (ii [10,11] ((O,az x (s.wKd kd st tb sb fs))::((Y++M)++fm)) ⟨_,tb,Y++M,fs,fm,⟨Y,M,rfl,V,ht⟩,am,rfl,⟨b',rfl⟩,rfl⟩)
  rw[ah aa] at W;obtain⟨q0,qo,rfl⟩:=hv.some aa;have bq:=hd off
  obtain⟨ta,tl,tc,rfl,aw⟩:=V.form;obtain⟨CAP,u⟩:∃CAP,CAP=2^dD kd:=⟨_,rfl⟩
  have hC:1<=CAP/\CAP<=512:=by rw[u];exact jc (p:=fun kd=>1<=2^dD kd/\2^dD kd<=512) F (by decide) (by decide) (by decide)
  have a7:dD kd<=9:=by unfold dD;split<;>omega
  have bu:1*2^dD kd<2^63:=by rw[Nat.one_mul,<- u];omega
  rw[<- u] at aw;refine go ?_;refine bU (vs:=[.int .u8 (d off:Nat),.int .u8 0,.int .u16 0]) rfl rfl z211 rfl rfl rfl rfl ?_
  refine eK (s:=2) [[.int .u8 (d off:Nat),.int .u8 0,.int .u16 0]] rfl rfl z211 rfl (by decide) (fun a ha=>by rw[List.mem_singleton.1 ha];rfl) rfl rfl rfl hex fun eb cu=>?_
  obtain⟨EB,a3⟩:∃EB,EB=aj [[.int .u8 (d off:Nat),.int .u8 0,.int .u16 0]].flatten 211:=⟨_,rfl⟩
  have ca:H4 EB.g 1 (fun _=>d off) (fun _=>0) (fun _=>0):=by rw[a3];exact Ib _
  have br:1*3<=EB.n:=by rw[a3];exact aZ 3
  refine cA (m':=(O,az x (s.wKd kd st (.slice ta tl tc) sb fs))::(cb,I)::(Y++(M++(fm++(eb,EB)::(pb,PB)::pr)))) ?hM3 ?hQ3 ?hR3
  case hM3=>rw[a3];exact .of_perm an
  case hQ3=>intro f h;refine bZ ?_ h;rw[a3];exact .of_perm an
  clear a3;refine go ?_;refine aF (v:=.slice ta tl tc) rfl rfl .here (H 25 kd aa F) (qT F) rfl ?_
  refine go ?_;have bo:∀(C:Nat) (K:bk) (l:Nat),l<=CAP->K.fr=(0,0)->CAP*4<=K.n->Y=[]->yz kd st (.slice (bi C) l CAP) sb t ([(C,K)]++M):=by
   rintro C K l hl hf hn rfl;refine⟨[(C,K)],M,rfl,.inr ⟨C,l,K,by rw[u],by rw[<- u];exact hl,rfl,hf,by rw[<- u];exact hn⟩,?_⟩
   cases t with
   | none=>exact ht
   | some T=>obtain⟨q1,b,c,B,q2,q3,q4⟩:=ht;exact⟨q1,b,c,B,q2,List.mem_append.2 (.inr (by simpa using q3)),q4⟩
  refine bp (σ:=Nat×Nat×bk) [0,2,3,13,15] (fun _=>[]) (fun y=>(O,az x (s.wKd kd st (.slice (bi y.1) y.2.1 CAP) sb fs))::(y.1,y.2.2)::(cb,I)::(eb,EB)::(M++(fm++(pb,PB)::pr))) (fun y=>y.2.1<=CAP/\y.2.2.fr=(0,0)/\CAP*4<=y.2.2.n/\∀l,l<=CAP->yz kd st (.slice (bi y.1) l CAP) sb t ([(y.1,y.2.2)]++M)) ?_ ?_
  ·refine ac rfl (fun al=>?_) (fun al=>?_)
   ·obtain⟨a2,rfl⟩:=aw.resolve_right (fun h=>by have:=h.1;omega)
    refine kO (qs:=qsT) [0,1,2,3,4,5,6,8,9,7,10,11] rfl (by kernel_rfl) ?_
    refine go ?_;rw[show 1*2^dD kd=CAP by rw[Nat.one_mul,u]]
    refine gm (len:=CAP) (cap:=CAP) rfl rfl rfl rfl z198 (by decide) (aZ _) aa hex rfl fun C bt=>?_
    refine go ?_;refine bD (v:=.slice (bi C) CAP CAP) rfl rfl rfl rfl (.there .here) (H 25 kd aa F) rfl hex ?_
    refine go ?_;exact⟨(C,CAP,⟨CAP*(3+1),bQ [.int .u32 0,.int .u8 0,.int .u8 0,.int .u16 0],198,(0,0)⟩),⟨aZ _,rfl,aZ _,fun l hl=>bo C _ l hl rfl (by show CAP*4<=CAP*(3+1);omega) rfl⟩,joined (.trans (.skip (.cons (vz F) (.refl _))) (.of_perm an))⟩
   ·obtain⟨a2,C,K,rfl,ax,rfl,ab,ad⟩:=aw.resolve_left (fun h=>al (by have:=h.1;omega))
    subst a2;refine go ?_;exact⟨(C,tl,K),⟨ax,ab,ad,fun l hl=>⟨[(C,K)],M,rfl,.inr ⟨C,l,K,by rw[u],by rw[<- u];exact hl,rfl,ab,by rw[<- u];exact ad⟩,ht⟩⟩,joined (.of_perm an)⟩
  rintro⟨C,bl,K⟩ f ⟨ax,ab,ad,hold⟩;dsimp only at ax ab ad hold ⊢;refine go ?_;refine aF (v:=.slice (bi C) bl CAP) rfl rfl .here (H 25 kd aa F) (qT F) rfl ?_
  refine go ?_;refine bD (v:=.slice (bi C) 1 CAP) rfl rfl rfl rfl .here (H 25 kd aa F) rfl hex ?_
  refine bj (m':=(O,az x (s.wKd kd st (.slice (bi C) 1 CAP) sb fs))::(C,K)::(cb,I)::(eb,EB)::(M++(fm++(pb,PB)::pr))) (.cons (vz F) (.refl _)) ?_
  refine go ?_;refine aF (v:=.slice (bi C) 1 CAP) rfl rfl .here (H 25 kd aa F) (qT F) rfl ?_
  refine go ?_;have hgo:bA.go Tryz.prog (IV kd)=true:=jc (p:=fun kd=>bA.go Tryz.prog (IV kd)=true) F rfl rfl rfl
  refine bj (m':=[(O,az x (s.wKd kd st (.slice (bi C) 1 CAP) sb fs)),(eb,EB),(C,K)]++((cb,I)::(M++(fm++(pb,PB)::pr)))) (.of_perm an) ?_
  refine jw (Du kd F S bd bc O eb C x (s.wKd kd st (.slice (bi C) 1 CAP) sb fs) _ 1 1 CAP EB K (fun _=>d off) (fun _=>0) (fun _=>0) ca br aa ab aa (fun _ _=>bq) (fun _ _=>⟨aa,aa⟩) (by
   by_cases h:dF kd<d off
   ·exact .inr ⟨Nat.one_pos,h⟩
   ·exact .inl fun _ _=>aa)) ?_ (hgo:=hgo) (fm:=(cb,I)::(M++(fm++(pb,PB)::pr))) (hs:=.refl _)
  rintro v m U;by_cases a4:dF kd<d off
  ·rw[ai ⟨Nat.one_pos,a4⟩] at U;obtain⟨⟨b',rfl⟩,rfl⟩:=U;rw[ai a4] at W;subst W;refine go ?_;exact af (ii [10,11] ((O,az x (s.wKd kd st (.slice (bi C) 1 CAP) sb fs))::(([(C,K)]++M)++fm)) ⟨_,_,[(C,K)]++M,fs,fm,hold 1 aa,am,rfl,⟨b',rfl⟩,rfl⟩)
  ·rw[ah (fun h=>a4 h.2)] at U
   obtain⟨rfl,g,hg,rfl⟩:=U;rw[ah a4] at W;subst W;refine go ?_;refine aF (v:=.slice (bi C) 1 CAP) rfl rfl .here (H 25 kd aa F) (qT F) rfl ?_
   refine go ?_;refine bD (v:=.slice (bi C) 1 CAP) rfl rfl rfl rfl .here (H 19 kd aa F) rfl hex ?_
   refine cA (.cons (p_ F) (.refl _)) (fun _ h=>bZ (.cons (p_ F) (.refl _)) h) ?_
   refine go ?_;refine bD (v:=.int .u8 ((0:Nat):Int)) rfl rfl rfl rfl .here (H 22 kd aa F) rfl hex ?_
   refine cA (.cons (qa F 0) (.refl _)) (fun _ h=>bZ (.cons (qa F 0) (.refl _)) h) ?_
   refine go ?_;exact af (ii [10,11] ((O,az x (s.wKd kd (.slice (bi C) 1 CAP) (.slice (bi C) 1 CAP) 0 fs))::(([(C,⟨K.n,g,K.T,(0,0)⟩)]++[])++fm)) ⟨_,_,[(C,⟨K.n,g,K.T,(0,0)⟩)]++[],fs,fm,⟨[(C,_)],[],rfl,.inr ⟨C,1,⟨K.n,g,K.T,(0,0)⟩,by rw[u],by rw[<- u];omega,rfl,rfl,by rw[<- u];exact ad⟩,rfl,C,CAP,_,rfl,List.mem_cons_self,hg,by show 2^0*4<=K.n;omega,.inl rfl⟩,am,rfl,rfl⟩)
 rw[ah aa] at W
 refine go ?_
 refine ac rfl (fun b9=>?_) (fun b9=>?_)
 ·rw[ai aa] at W;obtain⟨ta,tl,tc,rfl,aw⟩:=V.form;obtain⟨fa,fl,fc,rfl,b5⟩:∃fa fl fc,fs = .slice fa fl fc/\((fc=0/\fm=[])\/∃J g fk,fa=some ⟨J,0,none⟩/\fl<=fc/\fc*3<=fk/\fm=[(J,⟨fk,g,211,(0,0)⟩)]):=by
   rcases am with⟨rfl,rfl⟩|⟨J,g,fl,fc,fk,rfl,f1,f2,rfl⟩
   ·exact⟨_,_,_,rfl,.inl ⟨rfl,rfl⟩⟩
   ·exact⟨_,_,_,rfl,.inr ⟨J,g,fk,rfl,f1,f2,rfl⟩⟩
  obtain⟨CAP,u⟩:∃CAP,CAP=2^dD kd:=⟨_,rfl⟩
  have hC:1<=CAP/\CAP<=512:=by rw[u];exact jc (p:=fun kd=>1<=2^dD kd/\2^dD kd<=512) F (by decide) (by decide) (by decide)
  have a7:dD kd<=9:=by unfold dD;split<;>omega
  have bu:1*2^dD kd<2^63:=by rw[Nat.one_mul,<- u];omega
  have a0:1*2^dD kd=CAP:=by rw[Nat.one_mul,u]
  have cl:dF kd<=52:=jc (p:=fun kd=>dF kd<=52) F (by decide) (by decide) (by decide)
  rw[<- u] at aw;have a5:(az x (s.wKd kd st (.slice ta tl tc) sb (.slice fa fl fc))).g (0+44) = .slice fa fl fc:=zX F
  refine go ?_;rw[a0];refine bp (σ:=Nat×(Nat->Value)×Nat×Nat×Nat×ao) [0,1,2,3,13] (fun _=>[]) (fun y=>(O,az x (s.wKd kd st (.slice ta tl tc) sb (.slice (bi y.1) y.2.2.1 y.2.2.2.1)))::(y.1,⟨y.2.2.2.2.1,y.2.1,211,(0,0)⟩)::(cb,I)::(Y++(M++(y.2.2.2.2.2++(pb,PB)::pr)))) (fun y=>CAP<=y.2.2.2.1/\y.2.2.2.1*3<=y.2.2.2.2.1) ?_ ?_
  ·refine ac rfl (fun al=>?_) (fun al=>?_)
   ·refine go ?_;rw[a0];refine gm (len:=CAP) (cap:=CAP) rfl rfl rfl rfl z211 (by decide) (aZ _) aa hex rfl fun J c0=>?_
    refine go ?_;exact⟨(J,bQ [.int .u8 0,.int .u8 0,.int .u16 0],CAP,CAP,CAP*(2+1),fm),⟨aZ _,aZ _⟩,joined (.trans (.skip (.cons (yA F) (.refl _))) (.of_perm an))⟩
   ·obtain⟨J,g,fk,rfl,f1,f2,rfl⟩:=b5.resolve_left (fun h=>al (by have:=h.1;omega))
    refine go ?_;exact⟨(J,g,fl,fc,fk,[]),⟨by dsimp only;omega,f2⟩,joined (.of_perm an)⟩
  rintro⟨J,g,be,fc2,fk,jk⟩ f ⟨f1,f2⟩;dsimp only at f1 f2 ⊢;clear a5;have a5:(az x (s.wKd kd st (.slice ta tl tc) sb (.slice (bi J) be fc2))).g (0+44) = .slice (bi J) be fc2:=zX F
  refine go ?_;rw[a0];refine bj (m':=(O,az x (s.wKd kd st (.slice ta tl tc) sb (.slice (bi J) CAP fc2)))::(J,⟨fk,g,211,(0,0)⟩)::(cb,I)::(Y++(M++(jk++(pb,PB)::pr)))) (.cons (yA F) (.refl _)) ?_
  refine ae (uk S O J x (s.wKd kd st (.slice ta tl tc) sb (.slice (bi J) CAP fc2)) _ n cp hd hv hn off (dF kd) (dD kd) CAP fc2 ⟨fk,g,211,(0,0)⟩ a9 aa a7 (by rw[u];exact aZ _) f1 (by show CAP*3<=fk;omega) rfl) ?_ (fm:=(cb,I)::(Y++(M++(jk++(pb,PB)::pr)))) (hs:=.refl _)
  rintro v m U
  cases hP:eI true d n (dD kd) (dF kd) (8*off) with
  | none =>
   rw[hP] at U W;obtain⟨e',rfl,⟨b',rfl⟩,rfl⟩:=U;subst W;refine go ?_;exact af (ii [10,11] ((O,az x (s.wKd kd st (.slice ta tl tc) sb (.slice (bi J) CAP fc2)))::((Y++M)++[(J,⟨fk,g,211,(0,0)⟩)])) ⟨_,_,Y++M,_,[(J,_)],⟨Y,M,rfl,V,ht⟩,.inr ⟨J,g,CAP,fc2,fk,rfl,f1,f2,rfl⟩,rfl,⟨b',rfl⟩,rfl⟩)
  | some r =>
   obtain⟨log,sh,cx,q⟩:=r;rw[hP] at U W;dsimp only at U;obtain⟨rfl,g1,rfl,b4,_⟩:=U;obtain⟨p1,p2,p3,p4⟩:=pd hP a7;have ch:2^log<=CAP:=by rw[u];exact Nat.pow_le_pow_right aa p2
   have bv:0<2^log:=Nat.two_pow_pos _
   have cs:1*2^log<2^63:=aa
   have a8:1*2^log=2^log:=Nat.one_mul _
   have a5:(az x (s.wKd kd st (.slice ta tl tc) sb (.slice (bi J) CAP fc2))).g (0+44) = .slice (bi J) CAP fc2:=zX F
   refine go ?_;rw[a8];refine bj (m':=(O,az x (s.wKd kd st (.slice ta tl tc) sb (.slice (bi J) (2^log) fc2)))::(J,⟨fk,g1,211,(0,0)⟩)::(cb,I)::(Y++(M++(jk++(pb,PB)::pr)))) (.cons (yA F) (.refl _)) ?_
   refine aF (v:=.slice ta tl tc) rfl rfl .here (H 25 kd aa F) (qT F) rfl ?_
   refine go ?_;refine bp (σ:=Nat×Nat×bk) [0,3,13,17,18] (fun _=>[]) (fun y=>(O,az x (s.wKd kd st (.slice (bi y.1) y.2.1 CAP) sb (.slice (bi J) (2^log) fc2)))::(y.1,y.2.2)::(J,⟨fk,g1,211,(0,0)⟩)::(cb,I)::(M++(jk++(pb,PB)::pr))) (fun y=>y.2.1<=CAP/\y.2.2.fr=(0,0)/\CAP*4<=y.2.2.n) ?_ ?_
   ·refine ac rfl (fun al=>?_) (fun al=>?_)
    ·obtain⟨a2,rfl⟩:=aw.resolve_right (fun h=>by have:=h.1;omega)
     refine kO (qs:=qsT) [0,1,2,3,4,5,6,8,9,7,10,11] rfl (by kernel_rfl) ?_
     refine go ?_;rw[a0];refine gm (len:=CAP) (cap:=CAP) rfl rfl rfl rfl z198 (by decide) (aZ _) aa hex rfl fun C bt=>?_
     refine go ?_;refine bD (v:=.slice (bi C) CAP CAP) rfl rfl rfl rfl (.there .here) (H 25 kd aa F) rfl hex ?_
     refine go ?_;exact⟨(C,CAP,⟨CAP*(3+1),bQ [.int .u32 0,.int .u8 0,.int .u8 0,.int .u16 0],198,(0,0)⟩),⟨aZ _,rfl,aZ _⟩,joined (.trans (.skip (.cons (vz F) (.refl _))) (.of_perm an))⟩
    ·obtain⟨a2,C,K,rfl,ax,rfl,ab,ad⟩:=aw.resolve_left (fun h=>al (by have:=h.1;omega))
     subst a2;refine go ?_;exact⟨(C,tl,K),⟨ax,ab,ad⟩,joined (.of_perm an)⟩
   rintro⟨C,bl,K⟩ f ⟨ax,ab,ad⟩;dsimp only at ax ab ad ⊢;refine go ?_;refine aF (v:=.slice (bi C) bl CAP) rfl rfl .here (H 25 kd aa F) (qT F) rfl ?_
   refine go ?_;rw[a8];refine bD (v:=.slice (bi C) (2^log) CAP) rfl rfl rfl rfl .here (H 25 kd aa F) rfl hex ?_
   refine bj (m':=(O,az x (s.wKd kd st (.slice (bi C) (2^log) CAP) sb (.slice (bi J) (2^log) fc2)))::(C,K)::(J,⟨fk,g1,211,(0,0)⟩)::(cb,I)::(M++(jk++(pb,PB)::pr))) (.cons (vz F) (.refl _)) ?_
   have cm:(az x (s.wKd kd st (.slice (bi C) (2^log) CAP) sb (.slice (bi J) (2^log) fc2))).g (0+44) = .slice (bi J) (2^log) fc2:=zX F
   refine go ?_;refine aF (v:=.slice (bi C) (2^log) CAP) rfl rfl .here (H 25 kd aa F) (qT F) rfl ?_
   have hgo:bA.go Tryz.prog (IV kd)=true:=jc (p:=fun kd=>bA.go Tryz.prog (IV kd)=true) F rfl rfl rfl
   refine bj (m':=[(O,az x (s.wKd kd st (.slice (bi C) (2^log) CAP) sb (.slice (bi J) (2^log) fc2))),(J,⟨fk,g1,211,(0,0)⟩),(C,K)]++((cb,I)::(M++(jk++(pb,PB)::pr)))) (.of_perm an) ?_
   refine jw (Du kd F S bd bc O J C x (s.wKd kd st (.slice (bi C) (2^log) CAP) sb (.slice (bi J) (2^log) fc2)) _ (2^log) fc2 CAP ⟨fk,g1,211,(0,0)⟩ K (aI sh (dF kd+1) (2^log)) (aG sh (dF kd+1) log) (bO sh (dF kd+1) log) (Br.fs b4) (by show 2^log*3<=fk;omega) aa ab aa (fun p hp=>by have:=gU p3 hp;omega) (fun p hp=>⟨by unfold aG;omega,Nat.lt_of_le_of_lt (Nat.le_trans (Nat.le_add_right _ _) (h_ p3 hp).2.2) aa⟩) (.inl fun p hp=>by have:=gU p3 hp;omega)) ?_ (hgo:=hgo) (fm:=(cb,I)::(M++(jk++(pb,PB)::pr))) (hs:=.refl _)
   rintro v m U;rw[ah (fun h=>by have:=gU p3 (p:=0) bv;omega)] at U
   obtain⟨rfl,g2,cd,rfl⟩:=U;subst W;refine go ?_;refine aF (v:=.slice (bi C) (2^log) CAP) rfl rfl .here (H 25 kd aa F) (qT F) rfl ?_
   refine go ?_;refine bD (v:=.slice (bi C) (2^log) CAP) rfl rfl rfl rfl .here (H 19 kd aa F) rfl hex ?_
   refine cA (.cons (p_ F) (.refl _)) (fun _ h=>bZ (.cons (p_ F) (.refl _)) h) ?_
   refine go ?_;refine bD (v:=.int .u8 (log:Nat)) rfl rfl rfl rfl .here (H 22 kd aa F) rfl hex ?_
   refine cA (.cons (qa F log) (.refl _)) (fun _ h=>bZ (.cons (qa F log) (.refl _)) h) ?_
   refine go ?_;exact af (ii [10,11] ((O,az x (s.wKd kd (.slice (bi C) (2^log) CAP) (.slice (bi C) (2^log) CAP) log (.slice (bi J) (2^log) fc2)))::(([(C,⟨K.n,g2,K.T,(0,0)⟩)]++[])++[(J,⟨fk,g1,211,(0,0)⟩)])) ⟨_,_,[(C,⟨K.n,g2,K.T,(0,0)⟩)]++[],_,[(J,_)],⟨[(C,_)],[],rfl,.inr ⟨C,2^log,⟨K.n,g2,K.T,(0,0)⟩,by rw[u],by rw[<- u];exact ch,rfl,rfl,by rw[<- u];exact ad⟩,rfl,C,CAP,_,rfl,List.mem_cons_self,cd,by show 2^log*4<=K.n;omega,.inl rfl⟩,.inr ⟨J,g1,2^log,fc2,fk,rfl,aa,f2,rfl⟩,rfl,rfl⟩)
 ·rw[ah aa] at W;refine go ?_;refine ac rfl (fun ba=>?_) (fun ba=>absurd (show((mode:Nat):Int)=3 from aa) ba)
  refine go ?_;refine aF (v:=st) rfl rfl .here (H 19 kd aa F) (Js F) rfl ?_
  cases t with
  | none =>
   obtain⟨rfl,rfl⟩:=ht;subst W;refine go ?_;refine ae (c_ S O x _ _ _) ?_ (fm:=_) (hs:=.refl _)
   rintro v m ⟨⟨b',rfl⟩,rfl⟩;refine go ?_;exact af (ii [10,11] ((O,az x (s.wKd kd (.slice none 0 0) tb sb fs))::((Y++[])++fm)) ⟨_,tb,Y++[],fs,fm,⟨Y,[],rfl,V,rfl,rfl⟩,am,rfl,⟨b',rfl⟩,rfl⟩)
  | some T =>
   obtain⟨rfl,b,c',B,rfl,b7,b8,cc,ce⟩:=ht;subst W;have c2:0<2^T.log:=Nat.two_pow_pos _
   refine go ?_;refine ac rfl (fun h=>absurd h aa) (fun _=>?_)
   refine go ?_;exact af (ii [10,11] ((O,az x (s.wKd kd (.slice (bi b) (2^T.log) c') tb T.log fs))::((Y++M)++fm)) ⟨_,tb,Y++M,fs,fm,⟨Y,M,rfl,V,rfl,b,c',B,rfl,b7,b8,cc,ce⟩,am,rfl,rfl⟩)
end Go.Proofs.YtogmacnlpclgkaaGreatDoor
namespace Go.Proofs.YtogmacnlpclgkaaGreatDoor
open Go Go.Eng Go.Pz
attribute [local irreducible] RO J av aO
set_option maxRecDepth 20000
variable {G:ao} {d:Nat->Nat}
def re (s g:RS):Prop:=∃a0 a1 i b0 h j c0 c1 c2 fs,g=(s.wSeq a0 a1 i b0 h j c0 c1 c2).wFs fs
theorem re.refl (s:RS):re s s:=⟨s.st0,s.st1,s.st2,s.sb0,s.sb1,s.sb2,s.tb0,s.tb1,s.tb2,s.fs,rfl⟩
theorem re.trans {a b c:RS} (h:re a b) (j:re b c):re a c:=by
 obtain⟨_,_,_,_,_,_,_,_,_,_,rfl⟩:=h
 obtain⟨a0,a1,k,b0,g,i,c0,c1,c2,fs,rfl⟩:=j
 exact⟨a0,a1,k,b0,g,i,c0,c1,c2,fs,rfl⟩
theorem zY (s:RS) (st tb:Value) (sb:Nat) (fs:Value):re s (s.w0K st tb sb fs):=⟨st,s.st1,s.st2,sb,s.sb1,s.sb2,tb,s.tb1,s.tb2,fs,rfl⟩
theorem Dv (s:RS) (st tb:Value) (sb:Nat) (fs:Value):re s (s.w1K st tb sb fs):=⟨s.st0,st,s.st2,s.sb0,sb,s.sb2,s.tb0,tb,s.tb2,fs,rfl⟩
theorem G6 (s:RS) (st tb:Value) (sb:Nat) (fs:Value):re s (s.w2K st tb sb fs):=⟨s.st0,s.st1,st,s.sb0,s.sb1,sb,s.tb0,s.tb1,tb,fs,rfl⟩
structure Ic (s:RS) (e:CE) (m0 m1 m2 fm:ao):Prop where
 t0:yz 0 s.st0 s.tb0 s.sb0 e.t0 m0
 t1:yz 1 s.st1 s.tb1 s.sb1 e.t1 m1
 t2:yz 2 s.st2 s.tb2 s.sb2 e.t2 m2
 fs:Bt s.fs fm
def Kn (S:bN G) (k:Nat) (x:Int) (s:RS) (R:CE×Option (Nat×Nat)) (v:Value) (m:ao):Prop :=
 ∃g i j h fm,re s g/\Ic g R.1 i j h fm/\m=(k,az x g)::(i++(j++(h++fm))) /\
  match R.2 with
  | some (c,o)=>v = .tuple #[ay c,ay o,.nilIface]
  | none=>∃e,v = .tuple #[.int .i64 0,.int .i64 0,e]/\dM S .z e
theorem kP {t:Option eQ} {kind mode n off o:Nat} {T:eQ} (h:ep t kind mode d n off=some (T,o)) (g:off<=n) (i:kind<3):o<=n:=by
 unfold ep at h
 split at h
 ·cases h;exact g
 split at h
 ·split at h
  ·cases h
  split at h
  ·cases h
  ·cases h;omega
 split at h
 ·obtain⟨⟨log,sh,c,q⟩,j,e⟩:=Option.map_eq_some_iff.1 h;cases e;have k:=(pd j (by unfold dD;split<;>omega)).2.2.2
  show(q+7)/8<=n
  omega
 ·obtain⟨T',_,e⟩:=Option.map_eq_some_iff.1 h
  cases e;exact g
set_option maxHeartbeats 4000000 in
theorem Ie (S:bN G) (Y:ij G 4 fA) (ab:ij G 5 fB) (l:Nat) (x:Int) (s:RS) (da:Option Addr) (n cp:Nat) (hd:∀i,d i<256) (hv:aU G da n cp d) (hn:n<=2^20) (off:Nat) (a3:off<=n) (e:CE) (J F u fm:ao) (V:Ic s e J F u fm) :
  av Tryz.prog G 95 #[bf l,.slice da n cp,ay off] ((l,az x s)::(J++(F++(u++fm)))) (Kn S l x s (cU e d n off)):=by
 refine bE Tryz.func95 fun c h0 hex=>?_
 have H:cU e d n off=(e,none)->∀er,dM S .z er->Kn S l x s (cU e d n off) (.tuple #[.int .i64 0,.int .i64 0,er]) ((l,az x s)::(J++(F++(u++fm)))):=fun h er he=>by
  rw[h];exact⟨s,J,F,u,fm,re.refl s,V,rfl,er,rfl,he⟩
 refine go ?_
 refine ac rfl (fun a4=>?_) (fun a7=>?_)
 ·have k:cU e d n off=(e,none):=by unfold cU nK;rw[ai aa]
  refine go ?_;refine ae (eZ S l x s _) ?_
  rintro v m ⟨⟨b',rfl⟩,rfl⟩;refine go ?_;refine af ?_;exact ag [6,7,8] (post:=(l,az x s)::(J++(F++(u++fm)))) (H k _ ⟨b',rfl⟩)
 have a8:off<n:=aa
 obtain⟨b0,z0,rfl⟩:=hv.some aa
 obtain⟨h,hh⟩:∃h,h=d off:=⟨_,rfl⟩
 have a0:=hd off
 rw[<- hh] at a0
 refine go ?_
 rw[<- hh]
 refine go ?_
 refine ac rfl (fun hz=>?_) (fun hz=>?_)
 ·have k:cU e d n off=(e,some (0,off+1)):=by
   unfold cU nK;rw[ah aa,<- hh,ai aa];dsimp only;rw[ai aa]
  refine go ?_;refine af ?_;refine ag [6,7,8] (post:=(l,az x s)::(J++(F++(u++fm)))) ?_
  rw[k];exact⟨s,J,F,u,fm,re.refl s,V,rfl,rfl⟩
 have k:cU e d n off=match nK d n off with
  | none=>(e,none)
  | some (c,o)=>if n<=o then(e,none) else if d o%4≠0 then(e,none) else((ig e d n (o+1) (d o)).1,(ig e d n (o+1) (d o)).2.map fun q=>(c,q)):=by
  unfold cU;rw[<- hh]
  cases nK d n off with
  | none=>rfl
  | some r=>obtain⟨c,o⟩:=r;dsimp only;rw[ah aa]
 refine go ?_
 refine bp (σ:=Nat×Nat) [0,1] (fun t=>[(2,ay t.2),(10,ay t.1)]) (fun _=>(l,az x s)::(J++(F++(u++fm)))) (fun t=>nK d n off=some t/\t.2<=n/\t.1<=2^20) ?_ ?_
 ·have hH:nK d n off=if h<128 then some (h,off+1) else if h<255 then(if n<=off+1 then none else some ((h-128)*256+d (off+1),off+2)) else if n<=off+2 then none else some (d (off+1)+d (off+2)*256+32512,off+3):=by
   unfold nK;rw[ah aa,<- hh]
  have a6:=hd (off+1)
  have a5:=hd (off+2)
  have a2:=hd (off+1+1)
  refine ac rfl (fun h1=>?_) (fun h1=>?_)
  ·refine go ?_;exact⟨(h,off+1),⟨by rw[hH,ai aa],by dsimp only;omega,by dsimp only;omega⟩,joined (.refl _)⟩
  ·refine go ?_;refine ac rfl (fun h2=>?_) (fun h2=>?_)
   ·refine go ?_;refine ac rfl (fun h3=>?_) (fun h3=>?_)
    ·rw[show nK d n off=none by rw[hH,ah aa,ai aa,ai aa]] at k
     refine go ?_;refine ae (eZ S l x s _) ?_
     rintro v m ⟨⟨b',rfl⟩,rfl⟩;refine go ?_;refine af ?_;exact ag [6,7,8] (post:=(l,az x s)::(J++(F++(u++fm)))) (H k _ ⟨b',rfl⟩)
    ·refine go ?_;exact⟨((h-128)*256+d (off+1),off+2),⟨by rw[hH,ah aa,ai aa,ah aa],by dsimp only;omega,by dsimp only;omega⟩,joined (.refl _)⟩
   ·refine go ?_;refine ac rfl (fun h3=>?_) (fun h3=>?_)
    ·rw[show nK d n off=none by rw[hH,ah aa,ah aa,ai aa]] at k
     refine go ?_;refine ae (eZ S l x s _) ?_
     rintro v m ⟨⟨b',rfl⟩,rfl⟩;refine go ?_;refine af ?_;exact ag [6,7,8] (post:=(l,az x s)::(J++(F++(u++fm)))) (H k _ ⟨b',rfl⟩)
    ·refine go ?_;exact⟨(d (off+1)+d (off+2)*256+32512,off+3),⟨by rw[hH,ah aa,ah aa,ah aa],by dsimp only;omega,by dsimp only;omega⟩,joined (.refl _)⟩
 ·rintro⟨cn,o⟩ f ⟨g1,g2,g3⟩;dsimp only at g2 g3;rw[g1] at k;dsimp only at k ⊢;refine go ?_;refine ac rfl (fun h1=>?_) (fun h1=>?_)
  ·rw[ai aa] at k;refine go ?_;refine ae (eZ S l x s _) ?_
   rintro v m ⟨⟨b',rfl⟩,rfl⟩;refine go ?_;refine af ?_;exact ag [6,7,8] (post:=(l,az x s)::(J++(F++(u++fm)))) (H k _ ⟨b',rfl⟩)
  rw[ah aa] at k;obtain⟨md,al⟩:∃md,md=d o:=⟨_,rfl⟩
  have ax:=hd o
  rw[<- al] at ax k;refine go ?_;rw[<- al];refine go ?_;refine ac rfl (fun h4=>?_) (fun h4=>?_)
  ·rw[ai aa] at k;refine go ?_;refine ae (c_ S l x s _ _) ?_
   rintro v m ⟨⟨b',rfl⟩,rfl⟩;refine go ?_;refine af ?_;exact ag [6,7,8] (post:=(l,az x s)::(J++(F++(u++fm)))) (H k _ ⟨b',rfl⟩)
  rw[ah aa] at k;unfold ig at k;refine go ?_;have q0:av _ _ _ _ ((l,az x s)::(J++fm)) (FL S 0 l x s.w0K s.st0 s.sb0 e.t0 (ep e.t0 0 (md/2^6%4) d n (o+1))):=sL 0 aa S Y ab l x s _ n cp hd hv hn (o+1) (md/2^6%4) aa aa s.st0 s.tb0 s.sb0 s.fs e.t0 J fm V.t0 V.fs
  refine ae q0 ?_ (fm:=F++u) (hs:=.of_perm an)
  rintro v m j;rw[show md/2^6%4=md/64%4 from rfl] at j
  cases hK0:ep e.t0 0 (md/64%4) d n (o+1) with
  | none =>
   rw[hK0] at j k;obtain⟨e',O,I,M,C,k1,k2,rfl,⟨b',rfl⟩,rfl⟩:=j;refine go ?_;refine af ?_;refine ag [6,7,8] (post:=(l,az x (s.w0K s.st0 O s.sb0 M))::(I++(F++(u++C)))) (junk:=[]) ?_ rfl (.of_perm an)
   rw[k];exact⟨_,I,F,u,C,zY s _ _ _ _,⟨k1,V.t1,V.t2,k2⟩,rfl,_,rfl,b',rfl⟩
  | some r0 =>
   obtain⟨T0,o1⟩:=r0;have ad:=kP hK0 aa (by decide)
   rw[hK0] at j k;dsimp only at k;obtain⟨y,B,W,p,f0,k1,k2,rfl,rfl⟩:=j;refine go ?_;have q1:av _ _ _ _ ((l,az x (s.w0K y B T0.log p))::(F++f0)) (FL S 1 l x (s.w0K y B T0.log p).w1K s.st1 s.sb1 e.t1 (ep e.t1 1 (md/2^4%4) d n o1)):=sL 1 aa S Y ab l x (s.w0K y B T0.log p) _ n cp hd hv hn o1 (md/2^4%4) ad aa s.st1 s.tb1 s.sb1 p e.t1 F f0 V.t1 k2
   refine ae q1 ?_ (fm:=W++u) (hs:=.of_perm an)
   rintro v m j;rw[show md/2^4%4=md/16%4 from rfl] at j
   cases hK1:ep e.t1 1 (md/16%4) d n o1 with
   | none =>
    rw[hK1] at j k;obtain⟨e',O,I,M,C,k3,k4,rfl,⟨b',rfl⟩,rfl⟩:=j;refine go ?_;refine af ?_;refine ag [6,7,8] (post:=(l,az x ((s.w0K y B T0.log p).w1K s.st1 O s.sb1 M))::(W++(I++(u++C)))) (junk:=[]) ?_ rfl (.of_perm an)
    rw[k];exact⟨_,W,I,u,C,(zY s _ _ _ _).trans (Dv _ _ _ _ _),⟨k1,k3,V.t2,k4⟩,rfl,_,rfl,b',rfl⟩
   | some r1 =>
    obtain⟨T1,o2⟩:=r1;have a1:=kP hK1 ad (by decide)
    rw[hK1] at j k;dsimp only at k;obtain⟨st1,U,n1,K,f1,k3,k4,rfl,rfl⟩:=j;refine go ?_;have q2:av _ _ _ _ ((l,az x ((s.w0K y B T0.log p).w1K st1 U T1.log K))::(u++f1)) (FL S 2 l x ((s.w0K y B T0.log p).w1K st1 U T1.log K).w2K s.st2 s.sb2 e.t2 (ep e.t2 2 (md/2^2%4) d n o2)):=sL 2 aa S Y ab l x ((s.w0K y B T0.log p).w1K st1 U T1.log K) _ n cp hd hv hn o2 (md/2^2%4) a1 aa s.st2 s.tb2 s.sb2 K e.t2 u f1 V.t2 k4
    refine ae q2 ?_ (fm:=W++n1) (hs:=.of_perm an)
    rintro v m j;rw[show md/2^2%4=md/4%4 from rfl] at j
    cases hK2:ep e.t2 2 (md/4%4) d n o2 with
    | none =>
     rw[hK2] at j k;obtain⟨e',O,I,M,C,k5,k6,rfl,⟨b',rfl⟩,rfl⟩:=j;refine go ?_;refine af ?_;refine ag [6,7,8] (post:=(l,az x (((s.w0K y B T0.log p).w1K st1 U T1.log K).w2K s.st2 O s.sb2 M))::(W++(n1++(I++C)))) (junk:=[]) ?_ rfl (.of_perm an)
     rw[k];exact⟨_,W,n1,I,C,((zY s _ _ _ _).trans (Dv _ _ _ _ _)).trans (G6 _ _ _ _ _),⟨k1,k3,k5,k6⟩,rfl,_,rfl,b',rfl⟩
    | some r2 =>
     obtain⟨T2,o3⟩:=r2;rw[hK2] at j k;dsimp only at k;obtain⟨st2,aw,n2,am,f2,k5,k6,rfl,rfl⟩:=j;refine go ?_;refine af ?_;refine ag [6,7,8] (post:=(l,az x (((s.w0K y B T0.log p).w1K st1 U T1.log K).w2K st2 aw T2.log am))::(W++(n1++(n2++f2)))) (junk:=[]) ?_ rfl (.of_perm an)
     rw[k];exact⟨_,W,n1,n2,f2,((zY s _ _ _ _).trans (Dv _ _ _ _ _)).trans (G6 _ _ _ _ _),⟨k1,k3,k5,k6⟩,rfl,rfl⟩
end Go.Proofs.YtogmacnlpclgkaaGreatDoor
namespace Go.Proofs.YtogmacnlpclgkaaGreatDoor
open Go Go.Eng Go.Pz
theorem pk (S:Nat->Nat) (bl:Nat) (T:Nat->Nat):fj S bl 0 T=S:=by
 funext i;unfold fj;rw[ah aa]
theorem dr {S:Nat->Nat} {bl k:Nat} {T:Nat->Nat} {i:Nat} (g:bl<=i) (h:i<bl+k):fj S bl k T i=T (i-bl):=ai ⟨g,h⟩
theorem co {S:Nat->Nat} {bl k:Nat} {T:Nat->Nat} {i:Nat} (h:i<bl\/bl+k<=i):fj S bl k T i=S i:=ah aa
theorem nr {S:Nat->Nat} {bl k:Nat} {T T':Nat->Nat} (h:∀i,i<k->T i=T' i):fj S bl k T=fj S bl k T':=by
 funext i;unfold fj;split
 ·exact h _ aa
 ·rfl
theorem sM (S:Nat->Nat) (bl k:Nat) (T:Nat->Nat):fj S bl (k+1) T=cV (fj S bl k T) (bl+k) (T k):=by
 funext i
 by_cases h:i=bl+k
 ·subst h;rw[bL,dr aa aa];congr 1;omega
 ·rw[bz _ _ _ _ h];by_cases g:bl<=i/\i<bl+k
  ·rw[dr g.1 g.2,dr g.1 aa]
  ·rw[co aa,co aa]
section
variable {S:Nat->Nat} {bl:Nat} {L:Nat->Nat} {wl o:Nat}
theorem pn {i t:Nat} (hi:i<bl+t):∀{j:Nat},t<=j->iR S bl L wl o j i=iR S bl L wl o t i:=by
 intro j k
 induction j with
 | zero =>
  obtain rfl:t=0:=aa
  rfl
 | succ j g =>
  by_cases h:t=j+1
  ·rw[h]
  ·rw[iR,bz _ _ _ _ aa,g aa]
theorem Ig {t j:Nat} (h:t<j) (g:0<o):iR S bl L wl o j (bl+t)=if bl+t<o then L (wl+(bl+t)-o) else iR S bl L wl o j (bl+t-o):=by
 rw[pn (t:=t+1) aa aa]
 conv=>lhs;rw[iR,bL]
 split
 ·rfl
 ·rw[pn (t:=t) (j:=j) aa aa]
theorem zZ:∀{k:Nat},bl+k<=o->iR S bl L wl o k=fj S bl k fun i=>L (wl+(bl+i)-o)
 | 0,_=>(pk _ _ _).symm
 | k+1,h=>by rw[iR,ai aa,zZ aa,sM]
theorem z_ {fr j:Nat} (h:0<o) (k:fr=bl-o) {i:Nat} (l:fr+o<=i) (g:bl<=i) (p:i<bl+j):iR S bl L wl o j i=iR S bl L wl o j (i-o):=by
 have:=Ig (S:=S) (bl:=bl) (L:=L) (wl:=wl) (o:=o) (t:=i-bl) (j:=j) aa h
 rw[show bl+(i-bl)=i from aa,ah aa] at this
 exact this
theorem Aa {fr j r:Nat} (i:0<o) (g:fr=bl-o):∀q:Nat,bl<=fr+o->fr+r+q*o<bl+j->iR S bl L wl o j (fr+r+q*o)=iR S bl L wl o j (fr+r)
 | 0,_,_=>by rw[Nat.zero_mul,Nat.add_zero]
 | q+1,h0,h=>by
  rw[Nat.add_mul,Nat.one_mul] at h ⊢;rw[z_ (fr:=fr) i g aa aa aa,show fr+r+(q*o+o)-o=fr+r+q*o from aa];exact Aa i g q h0 aa
theorem FM {fr j q:Nat} (l:0<o) (g:fr=bl-o) (h0:bl<=fr+o) (r:0<q) (z:bl+j=fr+q*o):∀{k:Nat},k<=q*o->iR S bl L wl o (j+k)=fj (iR S bl L wl o j) (bl+j) k fun i=>iR S bl L wl o j (fr+i):=by
 intro k
 have u:o<=q*o:=Nat.le_mul_of_pos_left o r
 induction k with
 | zero=>intro _;rw[pk];rfl
 | succ k h =>
  intro y;have h:=h aa
  rw[sM,<- h,<- Nat.add_assoc j k 1]
  conv=>lhs;rw[iR]
  rw[ah aa,<- Nat.add_assoc bl j k]
  congr 1
  by_cases p:k<o
  ·rw[pn (t:=j) aa aa,show bl+j+k-o=fr+k+(q-1)*o by
    have:q*o=(q-1)*o+o:=by rw[<- Nat.add_one_mul];congr 1;omega
    omega]
   exact Aa l g (q-1) h0 (by
    have:q*o=(q-1)*o+o:=by rw[<- Nat.add_one_mul];congr 1;omega
    omega)
  ·rw[h,dr aa aa,show fr+(bl+j+k-o-(bl+j))=fr+k-o from aa];exact(z_ (fr:=fr) l g aa aa aa).symm
end
end Go.Proofs.YtogmacnlpclgkaaGreatDoor
namespace Go.Proofs.YtogmacnlpclgkaaGreatDoor
open Go Go.Eng Go.Pz
attribute [local irreducible] RO J av aO
set_option maxRecDepth 20000
variable {G:ao} {d:Nat->Nat}
theorem ky.form {v:Value} {n:Nat} {S:Nat->Value} {sm:ao} (h:ky v n S sm):∃g cp,v = .slice g n cp:=by
 rcases h with⟨rfl,rfl,_⟩|⟨b,cap,B,rfl,_⟩
 ·exact⟨_,_,rfl⟩
 ·exact⟨_,_,rfl⟩
theorem xo {S:Nat->Nat} {bl k:Nat} {src:Nat->Value} {T:Nat->Nat} (h:∀i,i<k->src i = .int .u8 (T i)):cQ (dw S) bl k src=dw (fj S bl k T):=by
 funext i
 by_cases hi:bl<=i/\i<bl+k
 ·rw[bH _ _ _ _ _ hi.1 hi.2,h _ aa];unfold dw;rw[dr hi.1 hi.2]
 ·rw[aP _ _ _ _ _ aa];unfold dw;rw[co aa]
theorem FN {S:Nat->Nat} {bl k k':Nat} {T:Nat->Nat}:fj (fj S bl k T) (bl+k) k' (fun i=>T (k+i))=fj S bl (k+k') T:=by
 funext i
 by_cases h:bl+k<=i/\i<bl+k+k'
 ·rw[dr h.1 h.2,dr aa aa];congr 1;omega
 ·rw[co aa];by_cases g:bl<=i/\i<bl+k
  ·rw[dr g.1 g.2,dr aa aa]
  ·rw[co aa,co aa]
section
variable {P:Program} [ty:bA P] {qs:List FuncId} {c:World} {n:Nat} {h0:dx} {ops:Array Oper} {Q:Fr->ao->Prop} {rest:List Oper} {f:Fr} {m:ao}
variable {dd:Option Tmp} {T T' tt:TypeId} {pos:String} {aft:Array Edge}
theorem lJ {x y:Operand} {l:Array TypeId} {T1 e len k B:Nat} {v:Value} {S X:Nat->Nat} {sm fm:ao} {C:Option Addr} (hx:ev f x=v) (H:l[0]? = some T) (u:bA.tk P T = .sl e) (hs:bA.sz P e=1)
  (J:dv P e=some [.int .u8 0]) (z:bA.by_ P e<=64) (t:l[1]? = some T1) (p:tw (bA.tk P T1)=true)
  (hb:fS v len S sm) (M:m.Perm (sm++fm)) (K:ev f y = .slice C k B) (O:aU (m++G) C k B X) (F:len+k<=2^40) (hex:h0.ex=false) (hd:aE n dd=true)
  (h:∀q r g,fS (.slice q (len+k) r) (len+k) (fj S len k X) g->RO P G qs c n h0 ops Q rest (aV f dd (.slice q (len+k) r)) (fm++g))
  (hQ:∀f m m',aR m m'->Q f m'->Q f m:=by first|exact fun _ _ _ e h=>bZ e h|exact fun _ _ _ e h=>jD e h) :
  RO P G qs c n h0 ops Q (⟨dd,.call ⟨.builtin .append,#[x,y],l⟩,tt,pos,aft,none⟩::rest) f m:=by
 obtain⟨src,I,A⟩:=O.src
 refine wH hx H u hs J z t p hb M (by rw[K];exact I) (fun j U=>by rw[A j U];rfl) F hex hd (fun V g i _=>?_) hQ
 rw[xo A] at i
 obtain⟨q,r,rfl⟩:=ky.form i
 exact h q r g i
end
def jP (ph:Nat->Nat) (g wl:Nat):Nat->Nat:=fun i=>ph (if g+i<wl then g+i else g+i-wl)
set_option maxHeartbeats 4000000 in
theorem Dw (k:Nat) (x:Int) (s:RS) (l:Option Addr) (wl wcp:Nat) (ph:Nat->Nat) (g:s.wd = .slice l wl wcp) (r:aU G l wl wcp ph) (K:s.wo<=wl) (Y:wl<=2^27) (U:Value) (bl:Nat) (u:Nat->Nat) (I:ao) (hb:fS U bl u I) (W:bl<=2^30) (fr to:Nat) (ad:fr<=to) (ab:to<=wl) :
  av Tryz.prog G 114 #[.pointer (some ⟨k,14,none⟩),U,.int .u32 (fr:Nat),.int .u32 (to:Nat)] ((k,az x s)::I) (fun v m=>∃B,fS v (bl+(to-fr)) (fj u bl (to-fr) fun i=>jP ph s.wo wl (fr+i)) B/\m=(k,az x s)::B):=by
 obtain⟨O,q,rfl⟩:=ky.form hb
 refine bE Tryz.func114 fun c h0 hex=>?_
 rw[<- s.wWin_self] at g ⊢
 generalize s.wd=wv at g ⊢
 generalize s.wo=wo at K ⊢
 generalize s.wsz=z
 have g:wv = .slice l wl wcp:=g
 subst g
 have V:=r.le
 refine go ?_
 refine bp (σ:=Nat×Bool) [0,1,3,9] (fun t=>[(2,.int .u32 (t.1:Nat)),(10,.bool t.2)]) (fun _=>(k,az x (s.wWin z (.slice l wl wcp) wo))::I) (fun t=>t.1<=wl/\(fr+wo=t.1/\t.2=false\/fr+wo=t.1+wl/\0<t.1/\t.2=true)) ?_ ?_
 ·refine ac rfl (fun h=>?_) (fun h=>?_)
  ·refine go ?_;exact⟨(fr+wo-wl,true),⟨by dsimp only;omega,.inr ⟨by dsimp only;omega,by dsimp only;omega,rfl⟩⟩,joined (.refl _)⟩
  ·refine go ?_;exact⟨(fr+wo,false),⟨by dsimp only;omega,.inl ⟨rfl,rfl⟩⟩,joined (.refl _)⟩
 rintro⟨F,b⟩ f ⟨g1,j⟩
 dsimp only at g1 j ⊢
 refine go ?_
 refine bp (σ:=Nat×Bool) [0,1,2] (fun t=>[(3,.int .u32 (t.1:Nat)),(10,.bool t.2)]) (fun _=>(k,az x (s.wWin z (.slice l wl wcp) wo))::I) (fun t=>t.1<=wl/\(t.2=true/\fr+wo=F/\to+wo=wl+t.1/\0<t.1\/t.2=false/\F<=t.1/\(fr+wo=F/\to+wo=t.1\/fr+wo=F+wl/\to+wo=t.1+wl/\0<F))) ?_ ?_
 ·refine ac rfl (fun h=>?_) (fun h=>?_)
  ·rcases j with⟨j,rfl⟩|⟨j,y,rfl⟩
   ·refine go ?_;exact⟨(to+wo-wl,true),⟨show to+wo-wl<=wl from aa,.inl ⟨rfl,j,show to+wo=wl+(to+wo-wl) from aa,show 0<to+wo-wl from aa⟩⟩,joined (.refl _)⟩
   ·refine go ?_;exact⟨(to+wo-wl,false),⟨show to+wo-wl<=wl from aa,.inr ⟨rfl,show F<=to+wo-wl from aa,.inr ⟨j,show to+wo=to+wo-wl+wl from aa,y⟩⟩⟩,joined (.refl _)⟩
  ·rcases j with⟨j,rfl⟩|⟨j,y,rfl⟩
   ·refine go ?_;exact⟨(to+wo,false),⟨by dsimp only;omega,.inr ⟨rfl,by dsimp only;omega,.inl ⟨j,rfl⟩⟩⟩,joined (.refl _)⟩
   ·omega
 rintro⟨T,b'⟩ f ⟨y,C⟩
 dsimp only at y C ⊢
 rcases C with⟨rfl,C,J,g6⟩|⟨rfl,C,J⟩
 ·refine go ?_;refine cT F wl r rfl rfl rfl rfl rfl rfl rfl aa aa rfl ?_
  refine go ?_;refine lJ (fm:=[(k,az x (s.wWin z (.slice l wl wcp) wo))]) rfl rfl rfl rfl z5 (by decide) rfl rfl hb (an) rfl (r.sub aa (aZ _)).add aa hex rfl ?_
  intro O q sm p;refine go ?_;refine fu T r rfl rfl rfl rfl rfl aa rfl ?_
  refine go ?_;refine lJ (fm:=[(k,az x (s.wWin z (.slice l wl wcp) wo))]) rfl rfl rfl rfl z5 (by decide) rfl rfl p (an) rfl (r.cut y).add aa hex rfl ?_
  intro O q sm H;refine go ?_;refine af ?_;refine ag [8] (post:=(k,az x (s.wWin z (.slice l wl wcp) wo))::sm) (junk:=[]) ⟨sm,?_,rfl⟩ rfl (.of_perm an)
  have e:bl+(wl-F)+T=bl+(to-fr):=aa
  rw[e] at H ⊢;have M:fj (fj u bl (wl-F) fun i=>ph (F+i)) (bl+(wl-F)) T ph=fj u bl (to-fr) fun i=>jP ph wo wl (fr+i):=by
   rw[show to-fr=(wl-F)+T from aa,<- FN];rw[nr (T:=fun i=>ph (F+i)) (T':=fun i=>jP ph wo wl (fr+i)) (fun i hi=>by unfold jP;rw[ai aa];congr 1;omega)]
   refine nr fun i hi=>?_
   unfold jP;rw[ah aa];congr 1;omega
  rw[<- M];exact H
 ·refine go ?_;refine cT F T r rfl rfl rfl rfl rfl rfl rfl aa aa rfl ?_
  refine go ?_;refine lJ (fm:=[(k,az x (s.wWin z (.slice l wl wcp) wo))]) rfl rfl rfl rfl z5 (by decide) rfl rfl hb (an) rfl ((r.cut y).sub C (aZ _)).add aa hex rfl ?_
  intro O q sm p;refine go ?_;refine af ?_;refine ag [8] (post:=(k,az x (s.wWin z (.slice l wl wcp) wo))::sm) (junk:=[]) ⟨sm,?_,rfl⟩ rfl (.of_perm an)
  have e:T-F=to-fr:=aa
  rw[e] at p ⊢;have M:fj u bl (to-fr) (fun i=>ph (F+i))=fj u bl (to-fr) fun i=>jP ph wo wl (fr+i):=nr fun i hi=>by
   unfold jP;rcases J with J|J
   ·by_cases h:wo+(fr+i)<wl
    ·rw[ai h];congr 1;omega
    ·omega
   ·rw[ah aa];congr 1;omega
  rw[<- M];exact p
end Go.Proofs.YtogmacnlpclgkaaGreatDoor
