/- Texts L4. -/
import Derived.Test.YtogmacnlpclgkaaGreatDoorX37
set_option linter.all false
namespace Go.Proofs.YtogmacnlpclgkaaGreatDoor
open Go Go.Eng Go.Pz
attribute [local irreducible] RO J av aO
set_option maxRecDepth 20000
variable {G:ao} {dat:Nat->Nat} {N:Nat}
theorem ti (x:Nat->Nat) (N:Nat):∀(f a g:Nat),(iy x N f a g).length<=f
 | 0,_,_=>aZ _
 | f+1,a,g=>by
  unfold iy;split
  ·split
   ·have:=ti x N f
    rw[List.length_cons];exact Nat.succ_le_succ (this _ _)
   ·exact Nat.zero_le _
  ·exact Nat.zero_le _
theorem uI {j:Option Addr} {k:Nat} {l:List Nat} {em:ao} (h:dH 1 (.slice j l.length k) l.length (je (yZ l)) em) (hl:0<l.length):∃b o B,j=some ⟨b,o,none⟩/\em=[(b,B)]/\o+l.length<=B.n/\∀i,i<l.length->B.g (o+i) = .int .i64 (l.getD i 0:Nat):=by
 rcases h with⟨_,h,_⟩|⟨b,o,cap,B,q,rfl,_,r,t,p⟩
 ·omega
 ·cases q;exact⟨b,o,B,rfl,rfl,aa,fun i hi=>p i aa⟩
end Go.Proofs.YtogmacnlpclgkaaGreatDoor
