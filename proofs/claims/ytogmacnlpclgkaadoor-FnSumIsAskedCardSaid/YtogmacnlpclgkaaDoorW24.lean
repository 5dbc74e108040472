/-
  WALKS 24: readFrameHeader, refill, refillIfNeeded over a Reader's state.
-/
import Derived.Test.YtogmacnlpclgkaaDoorW22
import Derived.Test.YtogmacnlpclgkaaDoorW23
namespace Go.Proofs.YtogmacnlpclgkaaDoor
open Go Go.Eng
attribute [local irreducible] RO J Trip Quiet
set_option maxRecDepth 20000
variable {G : Mem} {S : Sent G} {dat : Nat → Nat} {N : Nat}

/-- What a frame's header leaves of what only compressed blocks touch. -/
def RX.ini (x : RX) : RX := { x with r1 := 1, r2 := 4, r3 := 8, hb := 0, st0 := .slice none 0 0, st1 := .slice none 0 0, st2 := .slice none 0 0 }
theorem xset_x (s : RS) (scr : Nat → Nat) (T : Nat → Nat) : XhM (s.setSum scr (some true)) T 0 :=
  ⟨(Nat.zero_mod _).symm, fun _ _ => rfl, rfl, fun i hi => absurd hi (by omega), fun _ => by show 0 < 256; omega⟩

/-- What readFrameHeader leaves, as a state. -/
theorem rdHdr_of (src : Source S dat N) (hd : ∀ i, dat i < 256) {E : Type} (Ext : E → RX → Mem → Prop) (ini : E → E) (hini : ∀ e x em, Ext e x em → Ext (ini e) x.ini em) (rb : Nat) (p : PS E)
    (s : RS) (bm wm em : Mem) (hrv : s.rv = .iface src.t src.rv)
    (hfl : s.saw = p.saw ∧ s.sum = p.sum ∧ s.one = p.one ∧ s.unk = p.unk ∧ s.rem = p.rem ∧ s.off = p.off ∧ s.wsz = p.wsz) (hrem : p.rem < q64) (hSb : ∀ i, p.S i < 256) (hbl : p.bl ≤ 2 ^ 30) (hws : p.wsz ≤ 2 ^ 30)
    (hb : BufN s.buf p.bl p.S bm) (hw : WinM s.wd p.wsz s.wo p.L p.wl wm) (hx : p.sum = true → XhM s p.XT p.XN) (hext : Ext p.e s.ext em)
    {x' : Int} {s' : RS} {q' : src.σ} {wm' : Mem} {v : Value} (h1 : src.ok q') (h2 : ∀ i, s'.scr i < 256)
    (h3 : match hdrAt dat N (skipTo dat N N p.pos) with
        | .short => src.pos q' = N ∧ wm' = wm ∧ s' = { s with one := s.one || decide (skipTo dat N N p.pos ≠ p.pos), scr := s'.scr } ∧ ErrV S (if N - skipTo dat N N p.pos = 0 ∧ (s.one || decide (skipTo dat N N p.pos ≠ p.pos)) = true then .eof else .z) v
        | .bad sum pos => src.pos q' = pos ∧ wm' = wm ∧ s' = RS.setSum { s with one := s.one || decide (skipTo dat N N p.pos ≠ p.pos) } s'.scr sum ∧ ErrV S .z v
        | .ok sum known size win pos => src.pos q' = pos ∧ v = .nilIface ∧ SlM 1 s'.wd 0 (fun _ => undef) wm' ∧ s' = (RS.setSum { s with one := s.one || decide (skipTo dat N N p.pos ≠ p.pos) } s'.scr (some sum)).setHdr known size win s'.wd) :
    RdM src Ext rb (rdHdr dat N ini p).1 ((rb, rdB x' s') :: (src.mem q' ++ (bm ++ (wm' ++ em)))) ∧ EndV S (rdHdr dat N ini p).2 v := by
  obtain ⟨f1, f2, f3, f4, f5, f6, f7⟩ := hfl
  unfold rdHdr
  split at h3
  · rename_i he
    rw [he]
    obtain ⟨a1, rfl, a3, a4⟩ := h3
    obtain ⟨scr', hs'⟩ : ∃ scr' : Nat → Nat, s' = { s with one := s.one || decide (skipTo dat N N p.pos ≠ p.pos), scr := scr' } := ⟨_, a3⟩
    clear a3
    subst hs'
    rw [f3] at a4
    refine ⟨⟨x', _, q', bm, _, em, rfl, h1, a1, hrv, h2, ⟨f1, f2, by dsimp only; rw [f3], f4, f5, f6, f7⟩, hrem, hSb, hbl, hws, hb, hw, fun h => ⟨(hx h).len, (hx h).acc, (hx h).cnt, (hx h).buf, (hx h).byte⟩, hext⟩, ?_⟩
    dsimp only
    split
    · rename_i hc
      rw [if_pos hc] at a4
      exact .inr (.inl ⟨rfl, a4⟩)
    · rename_i hc
      rw [if_neg hc] at a4
      exact .inr (.inr ⟨rfl, a4⟩)
  · rename_i sum pos he
    rw [he]
    obtain ⟨a1, rfl, a3, a4⟩ := h3
    obtain ⟨scr', hs'⟩ : ∃ scr' : Nat → Nat, s' = RS.setSum { s with one := s.one || decide (skipTo dat N N p.pos ≠ p.pos) } scr' sum := ⟨_, a3⟩
    clear a3
    subst hs'
    cases sum with
    | none => exact ⟨⟨x', _, q', bm, _, em, rfl, h1, a1, hrv, h2, ⟨f1, f2, by show (s.one || _) = _; rw [f3], f4, f5, f6, f7⟩, hrem, hSb, hbl, hws, hb, hw, fun h => ⟨(hx h).len, (hx h).acc, (hx h).cnt, (hx h).buf, (hx h).byte⟩, hext⟩, .inr (.inr ⟨rfl, a4⟩)⟩
    | some b => exact ⟨⟨x', _, q', bm, _, em, rfl, h1, a1, hrv, h2, ⟨f1, rfl, by show (s.one || _) = _; rw [f3], f4, f5, f6, f7⟩, hrem, hSb, hbl, hws, hb, hw, fun h => by
        have h' : b = true := h
        subst h'
        exact xset_x _ _ _, hext⟩, .inr (.inr ⟨rfl, a4⟩)⟩
  · rename_i sum known size win pos he
    rw [he]
    obtain ⟨a1, a2, a3, a4⟩ := h3
    obtain ⟨scr', wd', hs'⟩ : ∃ (scr' : Nat → Nat) (wd' : Value), s' = (RS.setSum { s with one := s.one || decide (skipTo dat N N p.pos ≠ p.pos) } scr' (some sum)).setHdr known size win wd' := ⟨_, _, a4⟩
    clear a4
    subst hs'
    obtain ⟨g1, g2, d, p', g3⟩ := hdrAt_ok dat N he
    have g4 : size < q64 := by
      have := hSize_lt dat hd d p'
      rw [q64_eq, g3]; omega
    refine ⟨⟨x', _, q', bm, wm', em, rfl, h1, a1, hrv, h2, ⟨rfl, rfl, rfl, rfl, rfl, f6, rfl⟩, g4, hSb, hbl, by show win ≤ 2 ^ 30; omega, hb,
      ⟨fun _ => 0, slmCongr a3 (fun i hi => absurd hi (by simp)), Nat.zero_le _, Nat.le_refl _, fun _ => rfl, fun i hi => absurd hi (Nat.not_lt_zero _)⟩, fun h => ?_, hini _ _ _ hext⟩, .inl ⟨rfl, a2⟩⟩
    have h' : sum = true := h
    subst h'
    show XhM _ p.XT 0
    exact ⟨(Nat.zero_mod _).symm, fun _ _ => rfl, rfl, fun i hi => absurd (show i < 0 % 32 from hi) (by omega), fun _ => by show 0 < 256; omega⟩
end Go.Proofs.YtogmacnlpclgkaaDoor
