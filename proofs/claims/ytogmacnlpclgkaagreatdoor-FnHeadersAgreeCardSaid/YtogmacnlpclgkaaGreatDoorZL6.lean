/- Texts L6. -/
import Derived.Test.YtogmacnlpclgkaaGreatDoorX37
set_option linter.all false
namespace Go.Proofs.YtogmacnlpclgkaaGreatDoor
open Go Go.Eng Go.Pz
attribute [local irreducible] RO J av aO
set_option maxRecDepth 20000
variable {G:ao} {dat:Nat->Nat} {N:Nat}
theorem vZ (n:Nat) (h:n<2^32):eX (iZ n)=n:=by
 unfold eX
 rw[DE,DF,DG,Is]
 omega
theorem nB {x y:Nat->Nat} (h:∀i,i<4->x i=y i):eX x=eX y:=by
 unfold eX
 rw[h 0 (by decide),h 1 (by decide),h 2 (by decide),h 3 (by decide)]
end Go.Proofs.YtogmacnlpclgkaaGreatDoor
