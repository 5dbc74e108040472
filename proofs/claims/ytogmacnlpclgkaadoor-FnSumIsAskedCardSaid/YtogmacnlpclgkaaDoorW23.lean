/-
  WALKS 23: the Reader's calls in plain words: a header, a block, refill, Read, all of a stream.
-/
import Derived.Test.YtogmacnlpclgkaaDoorW20
namespace Go.Proofs.YtogmacnlpclgkaaDoor
open Go Go.Eng
set_option maxRecDepth 4000

/-- How a call ended: 0 without an error, 1 at the end, 2 with an error. -/
def EndV {G : Mem} (S : Sent G) (k : Nat) (v : Value) : Prop := k = 0 ∧ v = .nilIface ∨ k = 1 ∧ ErrV S .eof v ∨ k = 2 ∧ ErrV S .z v

section
variable {E : Type} (dat : Nat → Nat) (N : Nat) (ini : E → E) (cmp : PS E → Nat → PS E × Bool)

/-- The header of a frame, behind skippable frames. -/
def rdHdr (p : PS E) : PS E × Nat :=
  match hdrAt dat N (skipTo dat N N p.pos) with
  | .short => ({ p with pos := N, one := p.one || decide (skipTo dat N N p.pos ≠ p.pos) }, if N - skipTo dat N N p.pos = 0 ∧ (p.one || decide (skipTo dat N N p.pos ≠ p.pos)) = true then 1 else 2)
  | .bad none pos => ({ p with pos := pos, one := p.one || decide (skipTo dat N N p.pos ≠ p.pos) }, 2)
  | .bad (some b) pos => ({ p with pos := pos, one := p.one || decide (skipTo dat N N p.pos ≠ p.pos), sum := b, XN := 0 }, 2)
  | .ok sum known size win pos => ({ p with pos := pos, saw := true, sum := sum, one := true, unk := !known, rem := size, wl := 0, wsz := win, XN := 0, e := ini p.e }, 0)

/-- A frame has begun, or begins. -/
def rdHd (p : PS E) : PS E × Nat := if p.saw then (p, 0) else rdHdr dat N ini p

/-- The next block. -/
def rdFill (p : PS E) : PS E × Nat :=
  if (rdHd dat N ini p).2 = 0 then ((rdBlk dat N cmp (rdHd dat N ini p).1).1, if (rdBlk dat N cmp (rdHd dat N ini p).1).2 then 0 else 2) else rdHd dat N ini p

/-- Blocks until one is not empty. -/
def rdNeed : Nat → PS E → PS E × Nat
  | 0, p => (p, 2)
  | f + 1, p => if p.off < p.bl then (p, 0) else if (rdFill dat N ini cmp p).2 = 0 then rdNeed f { (rdFill dat N ini cmp p).1 with off := 0 } else rdFill dat N ini cmp p

/-- Read, of n bytes: how many it gives, how it ends; the bytes are those of the buffer, from the place off on. -/
def rdRead (n : Nat) (p : PS E) : PS E × Nat × Nat :=
  if (rdNeed dat N ini cmp (N + 1) p).2 = 0 then
    ({ (rdNeed dat N ini cmp (N + 1) p).1 with off := (rdNeed dat N ini cmp (N + 1) p).1.off + min n ((rdNeed dat N ini cmp (N + 1) p).1.bl - (rdNeed dat N ini cmp (N + 1) p).1.off) },
      min n ((rdNeed dat N ini cmp (N + 1) p).1.bl - (rdNeed dat N ini cmp (N + 1) p).1.off), 0)
  else ((rdNeed dat N ini cmp (N + 1) p).1, 0, (rdNeed dat N ini cmp (N + 1) p).2)
/-- The bytes that it gives. -/
def rdGot (p : PS E) : Nat → Nat := fun i => (rdNeed dat N ini cmp (N + 1) p).1.S ((rdNeed dat N ini cmp (N + 1) p).1.off + i)

/-- All of a stream, by reads of n bytes: what comes of it. -/
inductive AllR (n : Nat) : PS E → (Nat → Nat) → Nat → (Nat → Nat) × Nat × Bool → Prop
  | stop (p : PS E) (O : Nat → Nat) (ol : Nat) (h : (rdRead dat N ini cmp n p).2.2 ≠ 0) : AllR n p O ol (O, ol, decide ((rdRead dat N ini cmp n p).2.2 = 1))
  | step (p : PS E) (O : Nat → Nat) (ol : Nat) (r : (Nat → Nat) × Nat × Bool) (h : (rdRead dat N ini cmp n p).2.2 = 0)
      (h1 : AllR n (rdRead dat N ini cmp n p).1 (catF O ol (rdGot dat N ini cmp p)) (ol + (rdRead dat N ini cmp n p).2.1) r) : AllR n p O ol r
variable {dat N ini cmp} in
theorem AllR.ge {n : Nat} {p : PS E} {O : Nat → Nat} {ol : Nat} {r : (Nat → Nat) × Nat × Bool} (h : AllR dat N ini cmp n p O ol r) : ol ≤ r.2.1 := by
  induction h with
  | stop p O ol h => exact Nat.le_refl _
  | step p O ol r h h1 ih => exact Nat.le_trans (Nat.le_add_right _ _) ih
variable {dat N ini cmp} in
theorem AllR.next {n : Nat} {p : PS E} {O : Nat → Nat} {ol : Nat} {r : (Nat → Nat) × Nat × Bool} (h : AllR dat N ini cmp n p O ol r) (h0 : (rdRead dat N ini cmp n p).2.2 = 0) :
    AllR dat N ini cmp n (rdRead dat N ini cmp n p).1 (catF O ol (rdGot dat N ini cmp p)) (ol + (rdRead dat N ini cmp n p).2.1) r := by
  cases h with
  | stop _ _ _ h => exact absurd h0 h
  | step _ _ _ _ _ h1 => exact h1
variable {dat N ini cmp} in
theorem AllR.last {n : Nat} {p : PS E} {O : Nat → Nat} {ol : Nat} {r : (Nat → Nat) × Nat × Bool} (h : AllR dat N ini cmp n p O ol r) (h0 : (rdRead dat N ini cmp n p).2.2 ≠ 0) :
    r = (O, ol, decide ((rdRead dat N ini cmp n p).2.2 = 1)) := by
  cases h with
  | stop _ _ _ h => rfl
  | step _ _ _ _ h _ => exact absurd h h0

/-! Each call without an error goes on in the stream. -/
theorem skipTo_ge : ∀ f p, p ≤ skipTo dat N f p
  | 0, _ => Nat.le_refl _
  | f + 1, p => by
    unfold skipTo
    split
    · exact Nat.le_trans (by omega) (skipTo_ge f _)
    · exact Nat.le_refl _
theorem hdrAt_ok {p : Nat} {sum known : Bool} {size win pos : Nat} (h : hdrAt dat N p = .ok sum known size win pos) :
    p ≤ pos ∧ win ≤ 8388608 ∧ ∃ d p', size = hSize dat d p' := by
  unfold hdrAt at h
  split at h
  · exact HdrR.noConfusion h
  split at h
  · split at h <;> exact HdrR.noConfusion h
  split at h
  · exact HdrR.noConfusion h
  dsimp only at h
  split at h
  · exact HdrR.noConfusion h
  split at h
  · exact HdrR.noConfusion h
  split at h
  · exact HdrR.noConfusion h
  obtain ⟨h1, h2, h3, h4, h5⟩ := HdrR.ok.inj h
  exact ⟨by omega, by rw [← h4]; exact Nat.min_le_left _ _, _, _, h3.symm⟩
theorem le4_b {x : Nat → Nat} (h : ∀ i, x i < 256) : le4 x < 4294967296 := by
  have := h 0; have := h 1; have := h 2; have := h 3; unfold le4; omega
theorem hSize_lt (hd : ∀ i, dat i < 256) (d p : Nat) : hSize dat d p < 18446744073709551616 := by
  have h4 : ∀ p, le4 (fun i => dat (p + i)) < 4294967296 := fun p => le4_b fun i => hd _
  unfold hSize
  split
  · omega
  split
  · have := hd p; omega
  split
  · have := hd (p + 0); have := hd (p + 1); unfold le2; dsimp only; omega
  split
  · have := h4 p; omega
  · have a := h4 p
    have b := le4_b (x := fun i => dat (p + (i + 4))) fun i => hd _
    unfold le8; dsimp only; omega

theorem rdEnd_pos (last : Bool) (p : PS E) : N - (rdEnd dat N last p).1.pos ≤ N - p.pos := by
  unfold rdEnd
  by_cases h0 : p.unk = false ∧ p.rem < p.bl
  · rw [if_pos h0]; exact Nat.le_refl _
  rw [if_neg h0]
  dsimp only
  generalize (if p.sum then catF p.XT p.XN p.S else p.XT) = XT
  generalize (if p.sum then p.XN + p.bl else p.XN) = XN
  by_cases h1 : last = false
  · rw [if_pos h1]; exact Nat.le_refl _
  rw [if_neg h1]
  generalize (if p.unk then p.rem else p.rem - p.bl) = r
  by_cases h2 : p.unk = false ∧ r ≠ 0
  · rw [if_pos h2]; exact Nat.le_refl _
  rw [if_neg h2]
  by_cases h3 : p.sum = false
  · rw [if_pos h3]; exact Nat.le_refl _
  rw [if_neg h3]
  by_cases h4 : N - p.pos < 4
  · rw [if_pos h4]; dsimp only; omega
  rw [if_neg h4]
  by_cases h5 : le4 (fun i => dat (p.pos + i)) = xdig XT XN % 4294967296
  · rw [if_pos h5]; dsimp only; omega
  · rw [if_neg h5]; dsimp only; omega

/-- A compressed block goes on, or stands. -/
def CmpGo : Prop := ∀ p size, (cmp p size).2 = true → N - (cmp p size).1.pos ≤ N - p.pos
theorem rdBlk_pos (hc : CmpGo N cmp) (p : PS E) (h : (rdBlk dat N cmp p).2 = true) : N - (rdBlk dat N cmp p).1.pos < N - p.pos := by
  revert h
  unfold rdBlk
  split
  · intro h; exact absurd h (by simp)
  dsimp only
  split
  · intro h; exact absurd h (by simp)
  split
  · split
    · intro h; exact absurd h (by simp)
    · intro _
      refine Nat.lt_of_le_of_lt (rdEnd_pos dat N _ _) ?_
      dsimp only; omega
  split
  · split
    · intro h; exact absurd h (by simp)
    · intro _
      refine Nat.lt_of_le_of_lt (rdEnd_pos dat N _ _) ?_
      dsimp only; omega
  split
  · split
    · rename_i hr
      intro _
      refine Nat.lt_of_le_of_lt (rdEnd_pos dat N _ _) ?_
      have := hc _ _ hr
      dsimp only at this ⊢; omega
    · intro h; contradiction
  · intro h; exact absurd h (by simp)
theorem rdHdr_pos (p : PS E) (h : (rdHdr dat N ini p).2 = 0) : N - (rdHdr dat N ini p).1.pos ≤ N - p.pos := by
  revert h
  have hge := skipTo_ge dat N N p.pos
  unfold rdHdr
  split
  · intro h; revert h; dsimp only; split <;> intro h <;> exact absurd h (by decide)
  · intro h; exact absurd h (by simp)
  · intro h; exact absurd h (by simp)
  · rename_i he
    intro _
    have := (hdrAt_ok dat N he).1
    dsimp only; omega
theorem rdHd_pos (p : PS E) (h : (rdHd dat N ini p).2 = 0) : N - (rdHd dat N ini p).1.pos ≤ N - p.pos := by
  unfold rdHd at h ⊢
  split at h
  · rename_i hs; rw [if_pos hs]; exact Nat.le_refl _
  · rename_i hs; rw [if_neg hs]; exact rdHdr_pos dat N ini p h
theorem rdFill_pos (hc : CmpGo N cmp) (p : PS E) (h : (rdFill dat N ini cmp p).2 = 0) : N - (rdFill dat N ini cmp p).1.pos < N - p.pos := by
  unfold rdFill at h ⊢
  split at h
  · rename_i h0
    rw [if_pos h0]
    dsimp only at h ⊢
    split at h
    · rename_i hb
      exact Nat.lt_of_lt_of_le (rdBlk_pos dat N cmp hc _ hb) (rdHd_pos dat N ini p h0)
    · exact absurd h (by decide)
  · contradiction

theorem rdNeed_eq (f : Nat) (p : PS E) : rdNeed dat N ini cmp (f + 1) p = if p.off < p.bl then (p, 0) else if (rdFill dat N ini cmp p).2 = 0 then rdNeed dat N ini cmp f { (rdFill dat N ini cmp p).1 with off := 0 } else rdFill dat N ini cmp p := rfl
theorem rdNeed_succ (hc : CmpGo N cmp) : ∀ f p, N - p.pos < f → rdNeed dat N ini cmp (f + 1) p = rdNeed dat N ini cmp f p
  | 0, _, h => absurd h (Nat.not_lt_zero _)
  | f + 1, p, h => by
    rw [rdNeed_eq dat N ini cmp (f + 1) p, rdNeed_eq dat N ini cmp f p]
    split
    · rfl
    split
    · rename_i hf
      exact rdNeed_succ hc f _ (by have := rdFill_pos dat N ini cmp hc p hf; dsimp only; omega)
    · rfl
theorem rdNeed_fuel (hc : CmpGo N cmp) (p : PS E) (f : Nat) (h : N - p.pos < f) : ∀ k, rdNeed dat N ini cmp (f + k) p = rdNeed dat N ini cmp f p
  | 0 => rfl
  | k + 1 => (rdNeed_succ dat N ini cmp hc (f + k) p (by omega)).trans (rdNeed_fuel hc p f h k)
/-- One round of the loop. -/
theorem rdNeed_step (hc : CmpGo N cmp) (p : PS E) (h1 : ¬ p.off < p.bl) (h2 : (rdFill dat N ini cmp p).2 = 0) : rdNeed dat N ini cmp (N + 1) p = rdNeed dat N ini cmp (N + 1) { (rdFill dat N ini cmp p).1 with off := 0 } := by
  rw [rdNeed_eq dat N ini cmp N p, if_neg h1, if_pos h2]
  exact (rdNeed_succ dat N ini cmp hc N _ (by have := rdFill_pos dat N ini cmp hc p h2; dsimp only; omega)).symm
theorem rdNeed_done (p : PS E) (h1 : p.off < p.bl) : rdNeed dat N ini cmp (N + 1) p = (p, 0) := by rw [rdNeed_eq dat N ini cmp N p, if_pos h1]
theorem rdNeed_stop (p : PS E) (h1 : ¬ p.off < p.bl) (h2 : (rdFill dat N ini cmp p).2 ≠ 0) : rdNeed dat N ini cmp (N + 1) p = rdFill dat N ini cmp p := by rw [rdNeed_eq dat N ini cmp N p, if_neg h1, if_neg h2]
end
end Go.Proofs.YtogmacnlpclgkaaDoor
