/-
  WALKS 20: the Reader's state, in plain words; what readBlock makes of it.
-/
import Derived.Test.YtogmacnlpclgkaaDoorW19
namespace Go.Proofs.YtogmacnlpclgkaaDoor
open Go Go.Eng
attribute [local irreducible] RO J Trip Quiet
set_option maxRecDepth 4000

/-- What only compressed blocks touch. -/
structure RX where
  r1 : Nat
  r2 : Nat
  r3 : Nat
  ht : Value
  hb : Nat
  cb : Value
  lit : Value
  st0 : Value
  st1 : Value
  st2 : Value
  sb0 : Nat
  sb1 : Nat
  sb2 : Nat
  tb0 : Value
  tb1 : Value
  tb2 : Value
  fs : Value
def RS.ext (s : RS) : RX := ⟨s.r1, s.r2, s.r3, s.ht, s.hb, s.cb, s.lit, s.st0, s.st1, s.st2, s.sb0, s.sb1, s.sb2, s.tb0, s.tb1, s.tb2, s.fs⟩

/-- The state of a Reader. -/
structure PS (E : Type) where
  pos : Nat
  saw : Bool
  sum : Bool
  one : Bool
  unk : Bool
  rem : Nat
  S : Nat → Nat
  bl : Nat
  off : Nat
  L : Nat → Nat
  wl : Nat
  wsz : Nat
  XT : Nat → Nat
  XN : Nat
  e : E

def hdr3 (dat : Nat → Nat) (p : Nat) : Nat := dat p + dat (p + 1) * 256 + dat (p + 2) * 65536

section
variable {E : Type} (dat : Nat → Nat) (N : Nat)
/-- Behind a block's bytes, which lie in the buffer. -/
def rdEnd (last : Bool) (p : PS E) : PS E × Bool :=
  if p.unk = false ∧ p.rem < p.bl then (p, false) else
  let p1 : PS E := { p with rem := if p.unk then p.rem else p.rem - p.bl, XT := if p.sum then catF p.XT p.XN p.S else p.XT, XN := if p.sum then p.XN + p.bl else p.XN }
  if last = false then ({ p1 with L := winL p.wsz p.wl p.L p.bl p.S, wl := min p.wsz (p.wl + p.bl) }, true)
  else if p.unk = false ∧ p1.rem ≠ 0 then (p1, false)
  else if p.sum = false then ({ p1 with saw := false }, true)
  else if N - p.pos < 4 then ({ p1 with pos := N }, false)
  else if le4 (fun i => dat (p.pos + i)) = xdig p1.XT p1.XN % 4294967296 then ({ p1 with pos := p.pos + 4, saw := false }, true)
  else ({ p1 with pos := p.pos + 4 }, false)

/-- What readBlock does; cmp: what a compressed block of so many bytes does. -/
def rdBlk (cmp : PS E → Nat → PS E × Bool) (p : PS E) : PS E × Bool :=
  if N - p.pos < 3 then ({ p with pos := N }, false) else
  let h := hdr3 dat p.pos
  let p1 : PS E := { p with pos := p.pos + 3 }
  let size := h / 8
  if 131072 < size ∨ (0 < p.wsz ∧ p.wsz < size) then (p1, false) else
  if h / 2 % 4 = 0 then
    let k := min size (N - p1.pos)
    let p2 : PS E := { p1 with pos := p1.pos + k, S := ov p.S k dat p1.pos, bl := size }
    if k < size then (p2, false) else rdEnd dat N (decide (h % 2 ≠ 0)) p2
  else if h / 2 % 4 = 1 then
    if N - p1.pos < 1 then ({ p1 with bl := size }, false)
    else rdEnd dat N (decide (h % 2 ≠ 0)) { p1 with pos := p1.pos + 1, S := fun i => if i < size then dat p1.pos else p.S i, bl := size }
  else if h / 2 % 4 = 2 then
    let r := cmp p1 size
    if r.2 then rdEnd dat N (decide (h % 2 ≠ 0)) r.1 else r
  else (p1, false)
end

/-- The blocks of a Reader in such a state. -/
def RdM {G : Mem} {S : Sent G} {dat : Nat → Nat} {N : Nat} (src : Source S dat N) {E : Type} (Ext : E → RX → Mem → Prop) (rb : Nat) (p : PS E) (m : Mem) : Prop :=
  ∃ x s q bm wm em, m = (rb, rdB x s) :: (src.mem q ++ (bm ++ (wm ++ em))) ∧ src.ok q ∧ src.pos q = p.pos ∧ s.rv = .iface src.t src.rv ∧ (∀ i, s.scr i < 256) ∧
    (s.saw = p.saw ∧ s.sum = p.sum ∧ s.one = p.one ∧ s.unk = p.unk ∧ s.rem = p.rem ∧ s.off = p.off ∧ s.wsz = p.wsz) ∧ p.rem < q64 ∧ (∀ i, p.S i < 256) ∧ p.bl ≤ 2 ^ 30 ∧ p.wsz ≤ 2 ^ 30 ∧
    BufN s.buf p.bl p.S bm ∧ WinM s.wd p.wsz s.wo p.L p.wl wm ∧ (p.sum = true → XhM s p.XT p.XN) ∧ Ext p.e s.ext em
end Go.Proofs.YtogmacnlpclgkaaDoor
