/-
  TEXTS MERGED: W23, W24, W25, W26.
-/
import Derived.Test.YtogmacnlpclgkaaDoorK17
import Derived.Test.YtogmacnlpclgkaaDoorK18
/-! WALKS 23: the Reader's calls in plain words: a header, a block, refill, Read, all of a stream. -/
namespace Go.Proofs.YtogmacnlpclgkaaDoor
open Go Go.Eng
set_option maxRecDepth 4000

/-- How a call ended: 0 without an error, 1 at the end, 2 with an error. -/
def EndV {G : Mem} (S : Sent G) (k : Nat) (v : Value) : Prop := k = 0 ∧ v = .nilIface ∨ k = 1 ∧ ErrV S .eof v ∨ k = 2 ∧ ErrB S v

section
variable {E : Type} (dat : Nat → Nat) (N : Nat) (ini : E → E) (cmp : PS E → Nat → PS E × Bool)

/-- The header of a frame, behind skippable frames. -/
def rdHdr (p : PS E) : PS E × Nat :=
  match hdrAt dat N (skipTo dat N N p.pos) with
  | .short => ({ p with pos := N, one := p.one || decide (skipTo dat N N p.pos ≠ p.pos) }, if N - skipTo dat N N p.pos = 0 ∧ (p.one || decide (skipTo dat N N p.pos ≠ p.pos)) = true then 1 else 2)
  | .bad none pos => ({ p with pos := pos, one := p.one || decide (skipTo dat N N p.pos ≠ p.pos) }, 2)
  | .bad (some b) pos => ({ p with pos := pos, one := p.one || decide (skipTo dat N N p.pos ≠ p.pos), sum := b, XN := 0 }, 2)
  | .ok sum known size win pos => ({ p with pos := pos, saw := true, sum := sum, one := true, unk := !known, rem := size, wl := 0, wsz := win, XN := 0, e := ini p.e }, 0)

/-- A frame has begun, or begins. -/
def rdHd (p : PS E) : PS E × Nat := if p.saw then (p, 0) else rdHdr dat N ini p

/-- The next block. -/
def rdFill (p : PS E) : PS E × Nat :=
  if (rdHd dat N ini p).2 = 0 then ((rdBlk dat N cmp (rdHd dat N ini p).1).1, if (rdBlk dat N cmp (rdHd dat N ini p).1).2 then 0 else 2) else rdHd dat N ini p

/-- Blocks until one is not empty. -/
def rdNeed : Nat → PS E → PS E × Nat
  | 0, p => (p, 2)
  | f + 1, p => if p.off < p.bl then (p, 0) else if (rdFill dat N ini cmp p).2 = 0 then rdNeed f { (rdFill dat N ini cmp p).1 with off := 0 } else rdFill dat N ini cmp p

/-- Read, of n bytes: how many it gives, how it ends; the bytes are those of the buffer, from the place off on. -/
def rdRead (n : Nat) (p : PS E) : PS E × Nat × Nat :=
  if (rdNeed dat N ini cmp (N + 1) p).2 = 0 then
    ({ (rdNeed dat N ini cmp (N + 1) p).1 with off := (rdNeed dat N ini cmp (N + 1) p).1.off + min n ((rdNeed dat N ini cmp (N + 1) p).1.bl - (rdNeed dat N ini cmp (N + 1) p).1.off) },
      min n ((rdNeed dat N ini cmp (N + 1) p).1.bl - (rdNeed dat N ini cmp (N + 1) p).1.off), 0)
  else ((rdNeed dat N ini cmp (N + 1) p).1, 0, (rdNeed dat N ini cmp (N + 1) p).2)
/-- The bytes that it gives. -/
def rdGot (p : PS E) : Nat → Nat := fun i => (rdNeed dat N ini cmp (N + 1) p).1.S ((rdNeed dat N ini cmp (N + 1) p).1.off + i)

/-- All of a stream, by reads of n bytes: what comes of it. -/
inductive AllR (n : Nat) : PS E → (Nat → Nat) → Nat → (Nat → Nat) × Nat × Bool → Prop
  | stop (p : PS E) (O : Nat → Nat) (ol : Nat) (h : (rdRead dat N ini cmp n p).2.2 ≠ 0) : AllR n p O ol (O, ol, decide ((rdRead dat N ini cmp n p).2.2 = 1))
  | step (p : PS E) (O : Nat → Nat) (ol : Nat) (r : (Nat → Nat) × Nat × Bool) (h : (rdRead dat N ini cmp n p).2.2 = 0)
      (h1 : AllR n (rdRead dat N ini cmp n p).1 (catF O ol (rdGot dat N ini cmp p)) (ol + (rdRead dat N ini cmp n p).2.1) r) : AllR n p O ol r
variable {dat N ini cmp} in
theorem AllR.ge {n : Nat} {p : PS E} {O : Nat → Nat} {ol : Nat} {r : (Nat → Nat) × Nat × Bool} (h : AllR dat N ini cmp n p O ol r) : ol ≤ r.2.1 := by
  induction h with
  | stop p O ol h => exact Nat.le_refl _
  | step p O ol r h h1 ih => exact Nat.le_trans (Nat.le_add_right _ _) ih
variable {dat N ini cmp} in
theorem AllR.next {n : Nat} {p : PS E} {O : Nat → Nat} {ol : Nat} {r : (Nat → Nat) × Nat × Bool} (h : AllR dat N ini cmp n p O ol r) (h0 : (rdRead dat N ini cmp n p).2.2 = 0) :
    AllR dat N ini cmp n (rdRead dat N ini cmp n p).1 (catF O ol (rdGot dat N ini cmp p)) (ol + (rdRead dat N ini cmp n p).2.1) r := by
  cases h with
  | stop _ _ _ h => exact absurd h0 h
  | step _ _ _ _ _ h1 => exact h1
variable {dat N ini cmp} in
theorem AllR.last {n : Nat} {p : PS E} {O : Nat → Nat} {ol : Nat} {r : (Nat → Nat) × Nat × Bool} (h : AllR dat N ini cmp n p O ol r) (h0 : (rdRead dat N ini cmp n p).2.2 ≠ 0) :
    r = (O, ol, decide ((rdRead dat N ini cmp n p).2.2 = 1)) := by
  cases h with
  | stop _ _ _ h => rfl
  | step _ _ _ _ h _ => exact absurd h h0

/-! Each call without an error goes on in the stream. -/
theorem skipTo_ge : ∀ f p, p ≤ skipTo dat N f p
  | 0, _ => Nat.le_refl _
  | f + 1, p => by
    unfold skipTo
    split
    · exact Nat.le_trans (by omega) (skipTo_ge f _)
    · exact Nat.le_refl _
theorem hdrAt_ok {p : Nat} {sum known : Bool} {size win pos : Nat} (h : hdrAt dat N p = .ok sum known size win pos) :
    p ≤ pos ∧ win ≤ 8388608 ∧ ∃ d p', size = hSize dat d p' := by
  unfold hdrAt at h
  split at h
  · exact HdrR.noConfusion h
  split at h
  · split at h <;> exact HdrR.noConfusion h
  split at h
  · exact HdrR.noConfusion h
  dsimp only at h
  split at h
  · exact HdrR.noConfusion h
  split at h
  · exact HdrR.noConfusion h
  split at h
  · exact HdrR.noConfusion h
  obtain ⟨h1, h2, h3, h4, h5⟩ := HdrR.ok.inj h
  exact ⟨by omega, by rw [← h4]; exact Nat.min_le_left _ _, _, _, h3.symm⟩
theorem le4_b {x : Nat → Nat} (h : ∀ i, x i < 256) : le4 x < 4294967296 := by
  have := h 0; have := h 1; have := h 2; have := h 3; unfold le4; omega
theorem hSize_lt (hd : ∀ i, dat i < 256) (d p : Nat) : hSize dat d p < 18446744073709551616 := by
  have h4 : ∀ p, le4 (fun i => dat (p + i)) < 4294967296 := fun p => le4_b fun i => hd _
  unfold hSize
  split
  · omega
  split
  · have := hd p; omega
  split
  · have := hd (p + 0); have := hd (p + 1); unfold le2; dsimp only; omega
  split
  · have := h4 p; omega
  · have a := h4 p
    have b := le4_b (x := fun i => dat (p + (i + 4))) fun i => hd _
    unfold le8; dsimp only; omega

theorem rdEnd_pos (last : Bool) (p : PS E) : N - (rdEnd dat N last p).1.pos ≤ N - p.pos := by
  unfold rdEnd
  by_cases h0 : p.unk = false ∧ p.rem < p.bl
  · rw [if_pos h0]; exact Nat.le_refl _
  rw [if_neg h0]
  dsimp only
  generalize (if p.sum then catF p.XT p.XN p.S else p.XT) = XT
  generalize (if p.sum then p.XN + p.bl else p.XN) = XN
  by_cases h1 : last = false
  · rw [if_pos h1]; exact Nat.le_refl _
  rw [if_neg h1]
  generalize (if p.unk then p.rem else p.rem - p.bl) = r
  by_cases h2 : p.unk = false ∧ r ≠ 0
  · rw [if_pos h2]; exact Nat.le_refl _
  rw [if_neg h2]
  by_cases h3 : p.sum = false
  · rw [if_pos h3]; exact Nat.le_refl _
  rw [if_neg h3]
  by_cases h4 : N - p.pos < 4
  · rw [if_pos h4]; dsimp only; omega
  rw [if_neg h4]
  by_cases h5 : le4 (fun i => dat (p.pos + i)) = xdig XT XN % 4294967296
  · rw [if_pos h5]; dsimp only; omega
  · rw [if_neg h5]; dsimp only; omega

/-- A compressed block goes on, or stands. -/
def CmpGo : Prop := ∀ p size, (cmp p size).2 = true → N - (cmp p size).1.pos ≤ N - p.pos
theorem rdBlk_pos (hc : CmpGo N cmp) (p : PS E) (h : (rdBlk dat N cmp p).2 = true) : N - (rdBlk dat N cmp p).1.pos < N - p.pos := by
  revert h
  unfold rdBlk
  split
  · intro h; exact absurd h (by simp)
  dsimp only
  split
  · intro h; exact absurd h (by simp)
  split
  · split
    · intro h; exact absurd h (by simp)
    · intro _
      refine Nat.lt_of_le_of_lt (rdEnd_pos dat N _ _) ?_
      dsimp only; omega
  split
  · split
    · intro h; exact absurd h (by simp)
    · intro _
      refine Nat.lt_of_le_of_lt (rdEnd_pos dat N _ _) ?_
      dsimp only; omega
  split
  · split
    · rename_i hr
      intro _
      refine Nat.lt_of_le_of_lt (rdEnd_pos dat N _ _) ?_
      have := hc _ _ hr
      dsimp only at this ⊢; omega
    · intro h; contradiction
  · intro h; exact absurd h (by simp)
theorem rdHdr_pos (p : PS E) (h : (rdHdr dat N ini p).2 = 0) : N - (rdHdr dat N ini p).1.pos ≤ N - p.pos := by
  revert h
  have hge := skipTo_ge dat N N p.pos
  unfold rdHdr
  split
  · intro h; revert h; dsimp only; split <;> intro h <;> exact absurd h (by decide)
  · intro h; exact absurd h (by simp)
  · intro h; exact absurd h (by simp)
  · rename_i he
    intro _
    have := (hdrAt_ok dat N he).1
    dsimp only; omega
theorem rdHd_pos (p : PS E) (h : (rdHd dat N ini p).2 = 0) : N - (rdHd dat N ini p).1.pos ≤ N - p.pos := by
  unfold rdHd at h ⊢
  split at h
  · rename_i hs; rw [if_pos hs]; exact Nat.le_refl _
  · rename_i hs; rw [if_neg hs]; exact rdHdr_pos dat N ini p h
theorem rdFill_pos (hc : CmpGo N cmp) (p : PS E) (h : (rdFill dat N ini cmp p).2 = 0) : N - (rdFill dat N ini cmp p).1.pos < N - p.pos := by
  unfold rdFill at h ⊢
  split at h
  · rename_i h0
    rw [if_pos h0]
    dsimp only at h ⊢
    split at h
    · rename_i hb
      exact Nat.lt_of_lt_of_le (rdBlk_pos dat N cmp hc _ hb) (rdHd_pos dat N ini p h0)
    · exact absurd h (by decide)
  · contradiction

theorem rdNeed_eq (f : Nat) (p : PS E) : rdNeed dat N ini cmp (f + 1) p = if p.off < p.bl then (p, 0) else if (rdFill dat N ini cmp p).2 = 0 then rdNeed dat N ini cmp f { (rdFill dat N ini cmp p).1 with off := 0 } else rdFill dat N ini cmp p := rfl
theorem rdNeed_succ (hc : CmpGo N cmp) : ∀ f p, N - p.pos < f → rdNeed dat N ini cmp (f + 1) p = rdNeed dat N ini cmp f p
  | 0, _, h => absurd h (Nat.not_lt_zero _)
  | f + 1, p, h => by
    rw [rdNeed_eq dat N ini cmp (f + 1) p, rdNeed_eq dat N ini cmp f p]
    split
    · rfl
    split
    · rename_i hf
      exact rdNeed_succ hc f _ (by have := rdFill_pos dat N ini cmp hc p hf; dsimp only; omega)
    · rfl
theorem rdNeed_fuel (hc : CmpGo N cmp) (p : PS E) (f : Nat) (h : N - p.pos < f) : ∀ k, rdNeed dat N ini cmp (f + k) p = rdNeed dat N ini cmp f p
  | 0 => rfl
  | k + 1 => (rdNeed_succ dat N ini cmp hc (f + k) p (by omega)).trans (rdNeed_fuel hc p f h k)
/-- One round of the loop. -/
theorem rdNeed_step (hc : CmpGo N cmp) (p : PS E) (h1 : ¬ p.off < p.bl) (h2 : (rdFill dat N ini cmp p).2 = 0) : rdNeed dat N ini cmp (N + 1) p = rdNeed dat N ini cmp (N + 1) { (rdFill dat N ini cmp p).1 with off := 0 } := by
  rw [rdNeed_eq dat N ini cmp N p, if_neg h1, if_pos h2]
  exact (rdNeed_succ dat N ini cmp hc N _ (by have := rdFill_pos dat N ini cmp hc p h2; dsimp only; omega)).symm
theorem rdNeed_done (p : PS E) (h1 : p.off < p.bl) : rdNeed dat N ini cmp (N + 1) p = (p, 0) := by rw [rdNeed_eq dat N ini cmp N p, if_pos h1]
theorem rdNeed_stop (p : PS E) (h1 : ¬ p.off < p.bl) (h2 : (rdFill dat N ini cmp p).2 ≠ 0) : rdNeed dat N ini cmp (N + 1) p = rdFill dat N ini cmp p := by rw [rdNeed_eq dat N ini cmp N p, if_neg h1, if_neg h2]
end
end Go.Proofs.YtogmacnlpclgkaaDoor

/-! WALKS 24: readFrameHeader, refill, refillIfNeeded over a Reader's state. -/
namespace Go.Proofs.YtogmacnlpclgkaaDoor
open Go Go.Eng
attribute [local irreducible] RO J Trip Quiet
set_option maxRecDepth 20000
variable {G : Mem} {S : Sent G} {dat : Nat → Nat} {N : Nat}

/-- What a frame's header leaves of what only compressed blocks touch. -/
def RX.ini (x : RX) : RX := { x with r1 := 1, r2 := 4, r3 := 8, hb := 0, st0 := .slice none 0 0, st1 := .slice none 0 0, st2 := .slice none 0 0 }
theorem xset_x (s : RS) (scr : Nat → Nat) (T : Nat → Nat) : XhM (s.setSum scr (some true)) T 0 :=
  ⟨(Nat.zero_mod _).symm, fun _ _ => rfl, rfl, fun i hi => absurd hi (by omega), fun _ => by show 0 < 256; omega⟩

/-- What readFrameHeader leaves, as a state. -/
theorem rdHdr_of (src : Source S dat N) (hd : ∀ i, dat i < 256) {E : Type} (Ext : E → RX → Mem → Prop) (ini : E → E) (hini : ∀ e x em, Ext e x em → Ext (ini e) x.ini em) (rb : Nat) (p : PS E)
    (s : RS) (bm wm em : Mem) (hrv : s.rv = .iface src.t src.rv)
    (hfl : s.saw = p.saw ∧ s.sum = p.sum ∧ s.one = p.one ∧ s.unk = p.unk ∧ s.rem = p.rem ∧ s.off = p.off ∧ s.wsz = p.wsz) (hrem : p.rem < q64) (hSb : ∀ i, p.S i < 256) (hbl : p.bl ≤ 2 ^ 30) (hws : p.wsz ≤ 2 ^ 30)
    (hb : BufN s.buf p.bl p.S bm) (hw : WinM s.wd p.wsz s.wo p.L p.wl wm) (hx : p.sum = true → XhM s p.XT p.XN) (hext : Ext p.e s.ext em)
    {x' : Int} {s' : RS} {q' : src.σ} {wm' : Mem} {v : Value} (h1 : src.ok q') (h2 : ∀ i, s'.scr i < 256)
    (h3 : match hdrAt dat N (skipTo dat N N p.pos) with
        | .short => src.pos q' = N ∧ wm' = wm ∧ s' = { s with one := s.one || decide (skipTo dat N N p.pos ≠ p.pos), scr := s'.scr } ∧ ErrV S (if N - skipTo dat N N p.pos = 0 ∧ (s.one || decide (skipTo dat N N p.pos ≠ p.pos)) = true then .eof else .z) v
        | .bad sum pos => src.pos q' = pos ∧ wm' = wm ∧ s' = RS.setSum { s with one := s.one || decide (skipTo dat N N p.pos ≠ p.pos) } s'.scr sum ∧ ErrV S .z v
        | .ok sum known size win pos => src.pos q' = pos ∧ v = .nilIface ∧ SlM 1 s'.wd 0 (fun _ => undef) wm' ∧ s' = (RS.setSum { s with one := s.one || decide (skipTo dat N N p.pos ≠ p.pos) } s'.scr (some sum)).setHdr known size win s'.wd) :
    RdM src Ext rb (rdHdr dat N ini p).1 ((rb, rdB x' s') :: (src.mem q' ++ (bm ++ (wm' ++ em)))) ∧ EndV S (rdHdr dat N ini p).2 v := by
  obtain ⟨f1, f2, f3, f4, f5, f6, f7⟩ := hfl
  unfold rdHdr
  split at h3
  · rename_i he
    rw [he]
    obtain ⟨a1, rfl, a3, a4⟩ := h3
    obtain ⟨scr', hs'⟩ : ∃ scr' : Nat → Nat, s' = { s with one := s.one || decide (skipTo dat N N p.pos ≠ p.pos), scr := scr' } := ⟨_, a3⟩
    clear a3
    subst hs'
    rw [f3] at a4
    refine ⟨⟨x', _, q', bm, _, em, rfl, h1, a1, hrv, h2, ⟨f1, f2, by dsimp only; rw [f3], f4, f5, f6, f7⟩, hrem, hSb, hbl, hws, hb, hw, fun h => ⟨(hx h).len, (hx h).acc, (hx h).cnt, (hx h).buf, (hx h).byte⟩, hext⟩, ?_⟩
    dsimp only
    split
    · rename_i hc
      rw [if_pos hc] at a4
      exact .inr (.inl ⟨rfl, a4⟩)
    · rename_i hc
      rw [if_neg hc] at a4
      exact .inr (.inr ⟨rfl, .inl a4⟩)
  · rename_i sum pos he
    rw [he]
    obtain ⟨a1, rfl, a3, a4⟩ := h3
    obtain ⟨scr', hs'⟩ : ∃ scr' : Nat → Nat, s' = RS.setSum { s with one := s.one || decide (skipTo dat N N p.pos ≠ p.pos) } scr' sum := ⟨_, a3⟩
    clear a3
    subst hs'
    cases sum with
    | none => exact ⟨⟨x', _, q', bm, _, em, rfl, h1, a1, hrv, h2, ⟨f1, f2, by show (s.one || _) = _; rw [f3], f4, f5, f6, f7⟩, hrem, hSb, hbl, hws, hb, hw, fun h => ⟨(hx h).len, (hx h).acc, (hx h).cnt, (hx h).buf, (hx h).byte⟩, hext⟩, .inr (.inr ⟨rfl, .inl a4⟩)⟩
    | some b => exact ⟨⟨x', _, q', bm, _, em, rfl, h1, a1, hrv, h2, ⟨f1, rfl, by show (s.one || _) = _; rw [f3], f4, f5, f6, f7⟩, hrem, hSb, hbl, hws, hb, hw, fun h => by
        have h' : b = true := h
        subst h'
        exact xset_x _ _ _, hext⟩, .inr (.inr ⟨rfl, .inl a4⟩)⟩
  · rename_i sum known size win pos he
    rw [he]
    obtain ⟨a1, a2, a3, a4⟩ := h3
    obtain ⟨scr', wd', hs'⟩ : ∃ (scr' : Nat → Nat) (wd' : Value), s' = (RS.setSum { s with one := s.one || decide (skipTo dat N N p.pos ≠ p.pos) } scr' (some sum)).setHdr known size win wd' := ⟨_, _, a4⟩
    clear a4
    subst hs'
    obtain ⟨g1, g2, d, p', g3⟩ := hdrAt_ok dat N he
    have g4 : size < q64 := by
      have := hSize_lt dat hd d p'
      rw [q64_eq, g3]; omega
    refine ⟨⟨x', _, q', bm, wm', em, rfl, h1, a1, hrv, h2, ⟨rfl, rfl, rfl, rfl, rfl, f6, rfl⟩, g4, hSb, hbl, by show win ≤ 2 ^ 30; omega, hb,
      ⟨fun _ => 0, slmCongr a3 (fun i hi => absurd hi (by simp)), Nat.zero_le _, Nat.le_refl _, fun _ => rfl, fun i hi => absurd hi (Nat.not_lt_zero _)⟩, fun h => ?_, hini _ _ _ hext⟩, .inl ⟨rfl, a2⟩⟩
    have h' : sum = true := h
    subst h'
    show XhM _ p.XT 0
    exact ⟨(Nat.zero_mod _).symm, fun _ _ => rfl, rfl, fun i hi => absurd (show i < 0 % 32 from hi) (by omega), fun _ => by show 0 < 256; omega⟩
end Go.Proofs.YtogmacnlpclgkaaDoor

/-! WALKS 25: refill, refillIfNeeded. -/
namespace Go.Proofs.YtogmacnlpclgkaaDoor
open Go Go.Eng
attribute [local irreducible] RO J Trip Quiet
set_option maxRecDepth 20000
variable {G : Mem} {S : Sent G} {dat : Nat → Nat} {N : Nat}

/-- Where a compressed block stands next, it is one that may be asked for. -/
def CanAt (dat : Nat → Nat) (N : Nat) {E : Type} (can : PS E → Nat → Prop) (p : PS E) : Prop :=
  3 ≤ N - p.pos → hdr3 dat p.pos / 2 % 4 = 2 → can { p with pos := p.pos + 3 } (hdr3 dat p.pos / 8)

theorem rfill_t (src : Source S dat N) (hd : ∀ i, dat i < 256) (hsk : SkipT src) {E : Type} (Ext : E → RX → Mem → Prop) (cmp : PS E → Nat → PS E × Bool) (can : PS E → Nat → Prop) (hcmp : CmpT src Ext cmp can)
    (ini : E → E) (hini : ∀ e x em, Ext e x em → Ext (ini e) x.ini em) (fb : Blk) (hfb : (2, fb) ∈ G) (hfn : 0 < fb.n) (hfv : fb.g 0 = .bool false) (hN : N ≤ 2 ^ 62)
    (rb : Nat) (p : PS E) (m : Mem) (hm : RdM src Ext rb p m) (hcan : (rdHd dat N ini p).2 = 0 → CanAt dat N can (rdHd dat N ini p).1) :
    Trip Tryd.prog G 51 #[.pointer (some ⟨rb, 0, none⟩)] m (fun v m' => RdM src Ext rb (rdFill dat N ini cmp p).1 m' ∧ EndV S (rdFill dat N ini cmp p).2 v) := by
  have hm0 := hm
  obtain ⟨x, s, q0, bm, wm, em, rfl, hok, hpos, hrv, hscr, hfl, hrem, hSb, hbl, hws, hb, hw, hx, hext⟩ := hm
  refine Trip_of Tryd.func51 rfl (by show 1 ≤ _; decide) (args := [.pointer (some ⟨rb, 0, none⟩)]) fun c h0 hex => ?_
  refine go _ ?_
  refine J_joinE (σ := PS E × Mem) [] (fun _ => [(0, .pointer (some ⟨rb, 0, none⟩))]) (fun t => t.2) (fun t => RdM src Ext rb t.1 t.2 ∧ rdHd dat N ini p = (t.1, 0)) ?_ ?_
  · refine J_cond rfl (fun hu => ?_) (fun hu => ?_)
    · have hu' : p.saw = false := by rw [← hfl.1]; simpa using hu
      have hH : rdHd dat N ini p = rdHdr dat N ini p := by unfold rdHd; rw [if_neg (by rw [hu']; decide)]
      obtain ⟨ph, hsl, hwr⟩ := hw
      refine go _ ?_
      refine ro_callT (rfhE_t src hd hsk q0 rb x s wm p.wl _ hok hrv hscr hsl fb hfb hfn hfv) ?_ (hs := mH _ _ _ _ _)
      rintro v m ⟨x', s', q', wm', h1, h2, rfl, h3⟩
      rw [hpos] at h3
      obtain ⟨r1, r2⟩ := rdHdr_of src hd Ext ini hini rb p s bm wm em hrv hfl hrem hSb hbl hws hb ⟨ph, hsl, hwr⟩ hx hext (x' := x') h1 h2 h3
      refine RO_eqv (mH _ _ _ _ _).symm (fun _ h => J_eqv (mH _ _ _ _ _).symm h) ?_
      rcases r2 with ⟨hc, rfl⟩ | ⟨hc, he⟩ | ⟨hc, he⟩
      · refine go _ ?_
        exact ⟨(_, _), ⟨r1, by rw [hH, ← hc]⟩, ⟨rfl, trivial⟩, .refl _⟩
      · have hF : rdFill dat N ini cmp p = rdHdr dat N ini p := by unfold rdFill; rw [hH, if_neg (by rw [hc]; decide)]
        obtain rfl : v = .iface 122 (.pointer (some ⟨S.eb, S.eo, none⟩)) := he
        refine go _ ?_
        refine J_ret ?_
        exact ends_retS [2] (post := _) (junk := []) ⟨by rw [hF]; exact r1, .inr (.inl ⟨by rw [hF]; exact hc, rfl⟩)⟩ rfl (by rw [List.append_nil]; exact MEqv.refl _)
      · have hF : rdFill dat N ini cmp p = rdHdr dat N ini p := by unfold rdFill; rw [hH, if_neg (by rw [hc]; decide)]
        obtain ⟨et, b', eo, rfl⟩ := ErrB.form he
        refine go _ ?_
        refine J_ret ?_
        exact ends_retS [2] (post := _) (junk := []) ⟨by rw [hF]; exact r1, .inr (.inr ⟨by rw [hF]; exact hc, he⟩)⟩ rfl (by rw [List.append_nil]; exact MEqv.refl _)
    · have hu' : p.saw = true := by rw [← hfl.1]; simpa using hu
      refine go _ ?_
      exact ⟨(p, _), ⟨hm0, by unfold rdHd; rw [if_pos hu']⟩, ⟨rfl, trivial⟩, .refl _⟩
  rintro ⟨p1, m1⟩ f ⟨hm1, hH⟩
  dsimp only at hm1 hH ⊢
  rw [hH] at hcan
  refine go _ ?_
  refine ro_callT (rblk_t src hd Ext cmp can hcmp rb p1 m1 hm1 hN (hcan rfl)) ?_ (fm := []) (hs := by rw [List.append_nil]; exact .refl _)
  rintro v m ⟨hm2, hv⟩
  rw [List.append_nil]
  have hF : rdFill dat N ini cmp p = ((rdBlk dat N cmp p1).1, if (rdBlk dat N cmp p1).2 then 0 else 2) := by unfold rdFill; rw [hH, if_pos rfl]
  rcases hv with ⟨hc, rfl⟩ | ⟨hc, he⟩
  · refine go _ ?_
    refine J_ret ?_
    exact ends_retS [2] (post := m) (junk := []) ⟨by rw [hF]; exact hm2, .inl ⟨by rw [hF, hc]; rfl, rfl⟩⟩ rfl (by rw [List.append_nil]; exact MEqv.refl _)
  · obtain ⟨et, b', eo, rfl⟩ := ErrB.form he
    refine go _ ?_
    refine J_ret ?_
    exact ends_retS [2] (post := m) (junk := []) ⟨by rw [hF]; exact hm2, .inr (.inr ⟨by rw [hF, hc]; rfl, he⟩)⟩ rfl (by rw [List.append_nil]; exact MEqv.refl _)

/-- States that a walk goes through. -/
structure OkS (dat : Nat → Nat) (N : Nat) {E : Type} (ini : E → E) (cmp : PS E → Nat → PS E × Bool) (can : PS E → Nat → Prop) (Ok : PS E → Prop) : Prop where
  can : ∀ p, Ok p → (rdHd dat N ini p).2 = 0 → CanAt dat N can (rdHd dat N ini p).1
  fill : ∀ p, Ok p → (rdFill dat N ini cmp p).2 = 0 → Ok { (rdFill dat N ini cmp p).1 with off := 0 }
  off : ∀ p k, Ok p → Ok { p with off := k }

theorem rd_8 (x : Int) (s : RS) : ((rdB x s).st 8 (.int .i64 0)).obj = (rdB x (s.wOff 0)).obj := blk_tab rfl rfl rfl rfl
theorem rd_8n (x : Int) (s : RS) (n : Nat) : ((rdB x s).st 8 (.int .i64 n)).obj = (rdB x (s.wOff n)).obj := blk_tab rfl rfl rfl rfl

theorem rneed_t (src : Source S dat N) (hd : ∀ i, dat i < 256) (hsk : SkipT src) {E : Type} (Ext : E → RX → Mem → Prop) (cmp : PS E → Nat → PS E × Bool) (can : PS E → Nat → Prop) (hcmp : CmpT src Ext cmp can) (hgo : CmpGo N cmp)
    (ini : E → E) (hini : ∀ e x em, Ext e x em → Ext (ini e) x.ini em) (fb : Blk) (hfb : (2, fb) ∈ G) (hfn : 0 < fb.n) (hfv : fb.g 0 = .bool false) (hN : N ≤ 2 ^ 62)
    (Ok : PS E → Prop) (hOk : OkS dat N ini cmp can Ok) (rb : Nat) (p : PS E) (m : Mem) (hm : RdM src Ext rb p m) (hp : Ok p) :
    Trip Tryd.prog G 46 #[.pointer (some ⟨rb, 0, none⟩)] m (fun v m' => RdM src Ext rb (rdNeed dat N ini cmp (N + 1) p).1 m' ∧ EndV S (rdNeed dat N ini cmp (N + 1) p).2 v ∧
      ((rdNeed dat N ini cmp (N + 1) p).2 = 0 → Ok (rdNeed dat N ini cmp (N + 1) p).1 ∧ (rdNeed dat N ini cmp (N + 1) p).1.off < (rdNeed dat N ini cmp (N + 1) p).1.bl)) := by
  refine Trip_of Tryd.func46 rfl (by show 1 ≤ _; decide) (args := [.pointer (some ⟨rb, 0, none⟩)]) fun c h0 hex => ?_
  refine go _ ?_
  refine J_loopL (σ := PS E × Mem) [] (fun _ => [(0, .pointer (some ⟨rb, 0, none⟩))]) (fun t => t.2) (fun t => RdM src Ext rb t.1 t.2 ∧ Ok t.1 ∧ rdNeed dat N ini cmp (N + 1) p = rdNeed dat N ini cmp (N + 1) t.1) (fun t => N - t.1.pos) (p, m) (.refl _) ⟨hm, hp, rfl⟩ ?_
  rintro ⟨p1, m1⟩ f ⟨hm1, hp1, hE⟩
  dsimp only at hm1 hp1 hE ⊢
  have hm0 := hm1
  obtain ⟨x, s, q0, bm, wm, em, rfl, hok, hpos, hrv, hscr, hfl, hrem, hSb, hbl, hws, hb, hw, hx, hext⟩ := hm1
  obtain ⟨oa, cp, hbv, -⟩ := bufForm hb
  have hoff := hfl.2.2.2.2.2.1
  obtain ⟨s, rfl⟩ : ∃ s' : RS, s = (s'.wBuf (.slice oa p1.bl cp)).wOff p1.off := ⟨s, by cases s; simp only at hbv hoff; rw [hbv, hoff]⟩
  refine go _ ?_
  refine J_condP rfl (fun hge => ?_) (fun hlt => ?_)
  · have hn : ¬ p1.off < p1.bl := by omega
    refine go _ ?_
    refine ro_callT (rfill_t src hd hsk Ext cmp can hcmp ini hini fb hfb hfn hfv hN rb p1 _ hm0 (hOk.can p1 hp1)) ?_ (fm := []) (hs := by rw [List.append_nil]; exact .refl _)
    rintro v m2 ⟨hm2, hv⟩
    rw [List.append_nil]
    rcases hv with ⟨hc, rfl⟩ | ⟨hc, he⟩ | ⟨hc, he⟩
    · have hlt := rdFill_pos dat N ini cmp hgo p1 hc
      have hst := rdNeed_step dat N ini cmp hgo p1 hn hc
      have hok2 := hOk.fill p1 hp1 hc
      obtain ⟨x2, s2, q2, bm2, wm2, em2, rfl, a1, a2, a3, a4, ⟨b1, b2, b3, b4, b5, b6, b7⟩, a6, a7, a8, a9, a10, a11, a12, a13⟩ := hm2
      refine go _ ?_
      exact ⟨({ (rdFill dat N ini cmp p1).1 with off := 0 }, (rb, rdB x2 (s2.wOff 0)) :: (src.mem q2 ++ (bm2 ++ (wm2 ++ em2)))), hlt, ⟨⟨x2, _, q2, bm2, wm2, em2, rfl, a1, a2, a3, a4, ⟨b1, b2, b3, b4, b5, rfl, b7⟩, a6, a7, a8, a9, a10, a11, fun h => ⟨(a12 h).len, (a12 h).acc, (a12 h).cnt, (a12 h).buf, (a12 h).byte⟩, a13⟩, hok2, hE.trans hst⟩, ⟨rfl, trivial⟩, .cons (rd_8 _ _) (.refl _)⟩
    · have hF := hE.trans (rdNeed_stop dat N ini cmp p1 hn (by rw [hc]; decide))
      obtain rfl : v = .iface 122 (.pointer (some ⟨S.eb, S.eo, none⟩)) := he
      refine go _ ?_
      refine J_ret ?_
      exact ends_retS [2] (post := _) (junk := []) ⟨by rw [hF]; exact hm2, .inr (.inl ⟨by rw [hF]; exact hc, rfl⟩), fun h => by rw [hF, hc] at h; exact absurd h (by decide)⟩ rfl (by rw [List.append_nil]; exact MEqv.refl _)
    · have hF := hE.trans (rdNeed_stop dat N ini cmp p1 hn (by rw [hc]; decide))
      obtain ⟨et, b', eo, rfl⟩ := ErrB.form he
      refine go _ ?_
      refine J_ret ?_
      exact ends_retS [2] (post := _) (junk := []) ⟨by rw [hF]; exact hm2, .inr (.inr ⟨by rw [hF]; exact hc, he⟩), fun h => by rw [hF, hc] at h; exact absurd h (by decide)⟩ rfl (by rw [List.append_nil]; exact MEqv.refl _)
  · have hn : p1.off < p1.bl := by omega
    have hF := hE.trans (rdNeed_done dat N ini cmp p1 hn)
    refine go _ ?_
    refine J_ret ?_
    exact ends_retS [2] (post := _) (junk := []) ⟨by rw [hF]; exact hm0, .inl ⟨by rw [hF], rfl⟩, fun _ => by rw [hF]; exact ⟨hp1, hn⟩⟩ rfl (by rw [List.append_nil]; exact MEqv.refl _)
end Go.Proofs.YtogmacnlpclgkaaDoor

/-! WALKS 26: Read. -/
namespace Go.Proofs.YtogmacnlpclgkaaDoor
open Go Go.Eng
attribute [local irreducible] RO J Trip Quiet
set_option maxRecDepth 20000
variable {G : Mem} {S : Sent G} {dat : Nat → Nat} {N : Nat}

theorem read_t (src : Source S dat N) (hd : ∀ i, dat i < 256) (hsk : SkipT src) {E : Type} (Ext : E → RX → Mem → Prop) (cmp : PS E → Nat → PS E × Bool) (can : PS E → Nat → Prop) (hcmp : CmpT src Ext cmp can) (hgo : CmpGo N cmp)
    (ini : E → E) (hini : ∀ e x em, Ext e x em → Ext (ini e) x.ini em) (fb : Blk) (hfb : (2, fb) ∈ G) (hfn : 0 < fb.n) (hfv : fb.g 0 = .bool false) (hN : N ≤ 2 ^ 62)
    (Ok : PS E → Prop) (hOk : OkS dat N ini cmp can Ok) (rb : Nat) (p : PS E) (m : Mem) (hm : RdM src Ext rb p m) (hp : Ok p) (pb po n cap : Nat) (B : Blk) (hfr : B.fr = (0, 0)) (ho : po + n ≤ B.n) (hn : n ≤ 2 ^ 40) :
    Trip Tryd.prog G 35 #[.pointer (some ⟨rb, 0, none⟩), .slice (some ⟨pb, po, none⟩) n cap] ((pb, B) :: m) (fun v m' => ∃ m2 e, RdM src Ext rb (rdRead dat N ini cmp n p).1 m2 ∧
      m' = (pb, ⟨B.n, blit B.g po (rdRead dat N ini cmp n p).2.1 (u8f (rdGot dat N ini cmp p)), B.T, B.fr⟩) :: m2 ∧ v = .tuple #[.int .i64 ((rdRead dat N ini cmp n p).2.1 : Nat), e] ∧ EndV S (rdRead dat N ini cmp n p).2.2 e ∧
      ((rdRead dat N ini cmp n p).2.2 = 0 → Ok (rdRead dat N ini cmp n p).1)) := by
  refine Trip_of Tryd.func35 rfl (by show 2 ≤ _; decide) (args := [.pointer (some ⟨rb, 0, none⟩), .slice (some ⟨pb, po, none⟩) n cap]) fun c h0 hex => ?_
  refine go _ ?_
  refine ro_callT (rneed_t src hd hsk Ext cmp can hcmp hgo ini hini fb hfb hfn hfv hN Ok hOk rb p m hm hp) ?_ (fm := [(pb, B)]) (hs := swap1 _ _)
  rintro v m2 ⟨hm2, hv, hk⟩
  unfold rdRead rdGot
  generalize rdNeed dat N ini cmp (N + 1) p = r at hm2 hv hk ⊢
  refine RO_eqv (swap1 _ _).symm (fun _ h => J_eqv (swap1 _ _).symm h) ?_
  rcases hv with ⟨hc, rfl⟩ | ⟨hc, he⟩ | ⟨hc, he⟩
  · obtain ⟨hok', hlt⟩ := hk hc
    simp only [hc, if_true]
    obtain ⟨p1, k⟩ := r
    dsimp only at hm2 hc hok' hlt ⊢
    obtain ⟨x, s, q0, bm, wm, em, rfl, hok, hpos, hrv, hscr, hfl, hrem, hSb, hbl, hws, hb, hw, hx, hext⟩ := hm2
    obtain ⟨oa, cp, hbv, hview⟩ := bufForm hb
    have hoff := hfl.2.2.2.2.2.1
    obtain ⟨s, rfl⟩ : ∃ s' : RS, s = (s'.wBuf (.slice oa p1.bl cp)).wOff p1.off := ⟨s, by cases s; simp only at hbv hoff; rw [hbv, hoff]⟩
    have hv0 := hview []
    have hcp := hv0.le
    refine go _ ?_
    refine ro_slV p1.off p1.bl hv0 rfl rfl rfl rfl rfl rfl rfl (by omega) hcp rfl ?_
    obtain ⟨sf, hsrc, hsr⟩ := (hv0.sub (l := p1.off) (h := p1.bl) (by omega) (Nat.le_refl _)).src
    refine go _ ?_
    refine ro_copy (s := 0) (k := p1.bl - p1.off) (src := sf) rfl rfl rfl rfl (hsrc.imp (fun ⟨b, o, cp, B, h1, h2, h3, h4⟩ => ⟨b, o, cp, B, h1, by rw [List.append_nil] at h2; simp [h2], h3, h4⟩) id) (fun j hj => by rw [hsr j (by omega)]; rfl) .here hfr (by omega) hex rfl ?_
    rw [show min (p1.bl - p1.off) n = min n (p1.bl - p1.off) from Nat.min_comm _ _]
    have k1 : min n (p1.bl - p1.off) ≤ n := Nat.min_le_left _ _
    have k2 : min n (p1.bl - p1.off) ≤ p1.bl - p1.off := Nat.min_le_right _ _
    generalize min n (p1.bl - p1.off) = kk at *
    refine go _ ?_
    refine J_ret ?_
    refine ends_retS [4, 5] (post := (pb, ⟨B.n, blit B.g po kk (u8f fun i => p1.S (p1.off + i)), B.T, B.fr⟩) :: (rb, rdB x ((s.wBuf (.slice oa p1.bl cp)).wOff (p1.off + kk))) :: (src.mem q0 ++ (bm ++ (wm ++ em)))) (junk := [])
      ⟨_, .nilIface, ?_, rfl, rfl, .inl ⟨rfl, rfl⟩, fun _ => hOk.off _ _ hok'⟩ rfl ?_
    · exact ⟨x, _, q0, bm, wm, em, rfl, hok, hpos, hrv, hscr, ⟨hfl.1, hfl.2.1, hfl.2.2.1, hfl.2.2.2.1, hfl.2.2.2.2.1, rfl, hfl.2.2.2.2.2.2⟩, hrem, hSb, hbl, hws, hb, hw, fun h => ⟨(hx h).len, (hx h).acc, (hx h).cnt, (hx h).buf, (hx h).byte⟩, hext⟩
    · rw [List.append_nil]
      refine .cons (obj_congr fun i _ => ?_) (.cons (rd_8n _ _ _) (.refl _))
      show blit B.g po (kk * (0 + 1)) sf i = blit B.g po kk (u8f fun i => p1.S (p1.off + i)) i
      rw [show kk * (0 + 1) = kk by omega]
      by_cases hi : po ≤ i ∧ i < po + kk
      · rw [blit_in _ _ _ _ _ hi.1 hi.2, blit_in _ _ _ _ _ hi.1 hi.2, hsr _ (by omega)]; rfl
      · rw [blit_out _ _ _ _ _ (by omega), blit_out _ _ _ _ _ (by omega)]
  · rw [if_neg (by rw [hc]; decide)]
    obtain rfl : v = .iface 122 (.pointer (some ⟨S.eb, S.eo, none⟩)) := he
    refine go _ ?_
    refine J_ret ?_
    refine ends_retS [4, 5] (post := (pb, B) :: m2) (junk := []) ⟨m2, _, hm2, by rw [blit_zero], rfl, .inr (.inl ⟨hc, rfl⟩), fun h => ?_⟩ rfl (by rw [List.append_nil]; exact MEqv.refl _)
    dsimp only at h; rw [hc] at h; exact absurd h (by decide)
  · rw [if_neg (by rw [hc]; decide)]
    obtain ⟨et, b', eo, rfl⟩ := ErrB.form he
    refine go _ ?_
    refine J_ret ?_
    refine ends_retS [4, 5] (post := (pb, B) :: m2) (junk := []) ⟨m2, _, hm2, by rw [blit_zero], rfl, .inr (.inr ⟨hc, he⟩), fun h => ?_⟩ rfl (by rw [List.append_nil]; exact MEqv.refl _)
    dsimp only at h; rw [hc] at h; exact absurd h (by decide)

/-- impl.end -/
theorem end_t (S : Sent G) (k : Nat) (v : Value) (hv : EndV S k v) : Trip Tryd.prog G 34 #[v] [] (fun r m => m = [] ∧ r = .int .i64 (k : Nat)) := by
  refine Trip_of Tryd.func34 rfl (by show 1 ≤ _; decide) (args := [v]) fun c h0 hex => ?_
  obtain ⟨i, hi, hc⟩ := ptrInfo
  rcases hv with ⟨rfl, rfl⟩ | ⟨rfl, he⟩ | ⟨rfl, he⟩
  · refine go _ ?_
    refine J_ret ?_
    exact ends_retS [2] ⟨rfl, rfl⟩
  · obtain rfl : v = .iface 122 (.pointer (some ⟨S.eb, S.eo, none⟩)) := he
    refine go _ ?_
    refine ro_loadA rfl rfl (by simp [S.e0]) S.e0n S.e0g rfl ?_
    refine go _ ?_
    refine ro_eqPtrs (r := true) (B := S.E1) (B' := S.E1) rfl rfl rfl rfl hi hc rfl (.inl ⟨rfl, by simp⟩) rfl ?_
    refine go _ ?_
    refine J_ret ?_
    exact ends_retS [2] ⟨rfl, rfl⟩
  · rcases he with ⟨b', rfl⟩ | he
    · refine go _ ?_
      refine ro_loadA rfl rfl (by simp [S.e0]) S.e0n S.e0g rfl ?_
      refine go _ ?_
      refine ro_eqUnlike rfl rfl rfl rfl rfl ?_
      refine go _ ?_
      refine J_ret ?_
      exact ends_retS [2] ⟨rfl, rfl⟩
    · obtain rfl : v = .iface 122 (.pointer (some ⟨S.ub, S.uo, none⟩)) := he
      refine go _ ?_
      refine ro_loadA rfl rfl (by simp [S.e0]) S.e0n S.e0g rfl ?_
      refine go _ ?_
      refine ro_eqPtrs (r := false) (B := S.U1) (B' := S.E1) rfl rfl rfl rfl hi hc rfl ?_ rfl ?_
      · by_cases hb : S.ub = S.eb
        · exact .inl ⟨hb, by have := S.ne.resolve_left (fun h => h hb); simp [this]⟩
        · exact .inr ⟨hb, rfl, by simp [S.u1], by simp [S.e1], S.u1f, S.e1f⟩
      refine go _ ?_
      refine J_ret ?_
      exact ends_retS [2] ⟨rfl, rfl⟩
end Go.Proofs.YtogmacnlpclgkaaDoor
