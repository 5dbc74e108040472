/- Texts L2KBlock. -/
import Derived.Test.YtogmacnlpclgkaaGreatDoorZL2
set_option linter.all false
namespace Go.Proofs.YtogmacnlpclgkaaGreatDoor
open Go Go.Eng Go.Pz
attribute [local irreducible] RO J av aO
set_option maxRecDepth 20000
variable {G:ao} {dat:Nat->Nat} {N:Nat}
set_option maxHeartbeats 1000000 in
theorem EL (K:Option Addr) (L O:Nat) (x:Nat->Nat) (hx:∀i,x i<256) (hv:aU G K L O x) (I:Option Addr) (M J:Nat) (y:Nat->Nat) (hy:∀i,y i<256) (hw:aU G I M J y) (hL:L<=131072) (hM:M<=131072) :
  av Tryz.prog G 16 #[.slice K L O,.slice I M J] [] (fun v m=>∃j k n D,v = .slice j n k/\dH 1 (.slice j n k) n (dw D) m/\(∀i,D i<256)/\n<=400000):=by
 refine bE Tryz.func16 fun c h0 hex=>?_
 refine go ?_
 refine ae (mL 4247762216 4 aa) ?_
 rintro v Y ⟨a1,c1,rfl,h1⟩
 rw[List.append_nil]
 refine go ?_
 refine au (z:=.int .u8 0) (vs:=[.int .u8 0,.int .u8 56]) rfl rfl z5 rfl rfl rfl rfl hex fun h ab=>?_
 refine go ?_
 refine eP (fm:=[(h,aj [.int .u8 0,.int .u8 56] 5)]) rfl rfl rfl rfl z5 (by decide) rfl rfl h1 (Kx _ _) rfl (nA (b:=h) [0,56] (B:=aj [.int .u8 0,.int .u8 56] 5) (by simp) (aZ 2) fun i hi=>(match i,hi with
  | 0,_=>rfl
  | 1,_=>rfl)) (by show 4+2<=_;omega) hex rfl ?_
 intro a2 c2 s1 F
 refine go ?_
 refine ar (mL (L*2^3) 3 aa) ?_ (fm:=(h,aj [.int .u8 0,.int .u8 56] 5)::s1) (hs:=.of_perm an)
 rintro v g ⟨a3,c3,rfl,V⟩
 refine go ?_
 refine eP (fm:=(h,aj [.int .u8 0,.int .u8 56] 5)::g) rfl rfl rfl rfl z5 (by decide) rfl rfl F an rfl ((b_ V).mono fun p C=>by simp[C]) (by show 4+2+3<=_;omega) hex rfl ?_
 intro a4 c4 s2 H
 refine go ?_
 refine eP (fm:=(h,aj [.int .u8 0,.int .u8 56] 5)::g) rfl rfl rfl rfl z5 (by decide) rfl rfl H an rfl (aU.add hv) (by show 4+2+3+L<=_;omega) hex rfl ?_
 intro a5 c5 s3 q
 refine go ?_
 refine nZ (M*2^3) 4 rfl rfl (by show _<2^63;omega) (by decide) rfl ?_
 have o1:M*2^3|||4<2^21:=Nat.or_lt_two_pow aa (by decide)
 generalize M*2^3|||4=k1 at o1
 refine go ?_
 refine nZ k1 1 rfl rfl (by show _<2^63;omega) (by decide) rfl ?_
 have o2:k1|||1<2^21:=Nat.or_lt_two_pow o1 (by decide)
 generalize k1|||1=k2 at o2
 refine go ?_
 refine ar (mL k2 3 aa) ?_ (fm:=(h,aj [.int .u8 0,.int .u8 56] 5)::(g++s3)) (hs:=.of_perm an)
 rintro v l ⟨a6,c6,rfl,h3⟩
 refine go ?_
 refine eP (fm:=(h,aj [.int .u8 0,.int .u8 56] 5)::(g++l)) rfl rfl rfl rfl z5 (by decide) rfl rfl q an rfl ((b_ h3).mono fun p C=>by simp[C]) (by show 4+2+3+L+3<=_;omega) hex rfl ?_
 intro a7 c7 s4 u
 refine go ?_
 refine eP (fm:=(h,aj [.int .u8 0,.int .u8 56] 5)::(g++l)) rfl rfl rfl rfl z5 (by decide) rfl rfl u an rfl (aU.add hw) (by show 4+2+3+L+3+M<=_;omega) hex rfl ?_
 intro U W s5 r
 refine go ?_
 exact af (cE [4] (s5) ⟨U,W,_,_,rfl,r,lP (lP (lP (lP (lP (lQ _) (pt (by decide))) (lQ _)) hx) (lQ _)) hy,by show 4+2+3+L+3+M<=_;omega⟩ (.of_perm List.perm_append_comm))
set_option maxHeartbeats 1000000 in
theorem Ck (S:bN G) (V:jW G) {y:Nat->Nat} {M:Nat} (hx:∀i,dat i<256) (q:Option Addr) (r:Nat) (U:aU G q N r dat) (K:∀i,y i<256) (k:Option Addr) (l:Nat) (I:aU G k M l y) :
  av Tryz.prog G 3 #[.slice q N r,.slice k M l] [] (fun v _=>v = .bool true):=by
 obtain⟨t,g,j,h⟩:=V.fz
 refine bE Tryz.func3 fun c h0 hex=>?_
 refine go ?_
 refine aJ 8 rfl (fun F=>?_) (fun F=>?_)
 ·refine go ?_;exact af (ag [4] rfl)
 refine go ?_
 refine ac rfl (fun u=>?_) (fun u=>?_)
 ·refine go ?_;exact af (ag [4] rfl)
 refine go ?_
 refine aJ 16 rfl (fun O=>?_) (fun O=>?_)
 ·refine go ?_;refine ae (cf S t g j h) ?_
  rintro v m rfl;refine go ?_;exact af (bx [4] rfl)
 refine go ?_
 refine ac rfl (fun C=>?_) (fun C=>?_)
 ·refine go ?_;refine ae (cf S t g j h) ?_
  rintro v m rfl;refine go ?_;exact af (bx [4] rfl)
 refine go ?_
 refine ae (EL q N r dat hx U k M l y K I aa aa) ?_
 rintro v m ⟨z,H,n,D,rfl,hs,B,_⟩
 rw[List.append_nil]
 refine go ?_
 refine ar (av.freeze (fm:=m) (xT (S.add m) (V.add m) B z H ((b_ hs).mono fun p J=>by simp[J]))) ?_ (fm:=[]) (hs:=.of_perm an)
 rintro v m ⟨W,rfl,rfl⟩
 refine go ?_
 exact af (bx [4] rfl)
end Go.Proofs.YtogmacnlpclgkaaGreatDoor
