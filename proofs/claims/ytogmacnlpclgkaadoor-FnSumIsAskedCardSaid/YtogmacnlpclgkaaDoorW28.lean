/-
  WALKS 28: impl.Read; frames of one block of bytes as they are.
-/
import Derived.Test.YtogmacnlpclgkaaDoorW27
import Derived.Test.YtogmacnlpclgkaaDoorQ1
namespace Go.Proofs.YtogmacnlpclgkaaDoor
open Go Go.Eng
attribute [local irreducible] RO J Trip Quiet
set_option maxRecDepth 20000
variable {G : Mem} {dat : Nat → Nat} {N : Nat}

/-- A new Reader. -/
def PS.init {E : Type} (e : E) : PS E where
  pos := 0
  saw := false
  sum := false
  one := false
  unk := false
  rem := 0
  S := fun _ => 0
  bl := 0
  off := 0
  L := fun _ => 0
  wl := 0
  wsz := 0
  XT := fun _ => 0
  XN := 0
  e := e

theorem init_rdM (S : Sent G) (oa : Option Addr) (cp bb : Nat) (hv : View G oa N cp dat) (hN : N < 2 ^ 60) {E : Type} (Ext : E → RX → Mem → Prop) (e0 : E) (he : Ext e0 RS.zero.ext []) (rb : Nat) :
    RdM (bsrc S dat oa N cp bb hv hN) Ext rb (PS.init e0) ((rb, rdB 0 (RS.zero.reset (.iface 65 (.pointer (some ⟨bb, 0, none⟩))) (.slice none 0 0))) :: [(bb, brB oa N cp 0)]) :=
  ⟨0, _, (0 : Nat), [], [], [], rfl, Nat.zero_le _, rfl, rfl, fun _ => by show 0 < 256; omega, ⟨rfl, rfl, rfl, rfl, rfl, rfl, rfl⟩, q64_pos, fun _ => by show 0 < 256; omega, Nat.zero_le _, Nat.zero_le _,
    .inl ⟨rfl, rfl, rfl, fun _ => rfl⟩, ⟨fun _ => 0, .inl ⟨rfl, rfl, rfl⟩, Nat.zero_le _, Nat.le_refl _, fun _ => rfl, fun i hi => absurd hi (Nat.not_lt_zero _)⟩, fun h => absurd (show false = true from h) (by decide), he⟩

theorem implRead_t (S : Sent G) (hd : ∀ i, dat i < 256) (oa : Option Addr) (cp : Nat) (hv : View G oa N cp dat) (hN : N < 2 ^ 60) {E : Type} (Ext : E → RX → Mem → Prop) (cmp : PS E → Nat → PS E × Bool) (can : PS E → Nat → Prop) (hcmp : ∀ bb, CmpT (bsrc S dat oa N cp bb hv hN) Ext cmp can) (hgo : CmpGo N cmp)
    (ini : E → E) (hini : ∀ e x em, Ext e x em → Ext (ini e) x.ini em) (fb : Blk) (hfb : (2, fb) ∈ G) (hfn : 0 < fb.n) (hfv : fb.g 0 = .bool false)
    (Ok : PS E → Prop) (hOk : OkS dat N ini cmp can Ok) (e0 : E) (he : Ext e0 RS.zero.ext []) (hp : Ok (PS.init e0)) (r : (Nat → Nat) × Nat × Bool) (O0 : Nat → Nat) (hr : AllR dat N ini cmp 4096 (PS.init e0) O0 0 r) (hl : r.2.1 ≤ 2 ^ 39) :
    Trip Tryd.prog G 12 #[.slice oa N cp] [] (fun v om => ∃ out, v = .tuple #[out, .bool r.2.2] ∧ SlM 1 out r.2.1 (u8f r.1) om) := by
  refine Trip_of Tryd.func12 rfl (by show 1 ≤ _; decide) (args := [.slice oa N cp]) fun c h0 hex => ?_
  refine go _ ?_
  refine ro_callT (bnew_t oa N cp) ?_
  rintro v m ⟨bb, rfl, rfl⟩
  refine go _ ?_
  refine ro_callT (newReader_t G 65 (.pointer (some ⟨bb, 0, none⟩))) ?_
  rintro v m ⟨rb, rfl, rfl⟩
  refine go _ ?_
  refine ro_callT (all_t (bsrc S dat oa N cp bb hv hN) hd (bskip_t S dat hd oa N cp bb hv hN) Ext cmp can (hcmp bb) hgo ini hini fb hfb hfn hfv (by omega) Ok hOk rb _ _ (init_rdM S oa cp bb hv hN Ext e0 he rb) hp r O0 hr hl) ?_ (fm := []) (hs := .refl _)
  rintro v om ⟨out, rfl, hsl⟩
  obtain ⟨oa', cp', rfl⟩ := slmForm hsl
  rw [List.append_nil]
  refine go _ ?_
  refine J_ret ?_
  exact ends_retS [2, 3] (post := om) (junk := []) ⟨_, rfl, hsl⟩ rfl (by rw [List.append_nil]; exact MEqv.refl _)

/-! Frames of one block of bytes as they are -/
def rawCmp : PS Unit → Nat → PS Unit × Bool := fun p _ => (p, false)
theorem rawGo : CmpGo N rawCmp := fun _ _ h => absurd (show false = true from h) (by decide)
theorem raw_ok {tx : Nat → Nat} {L n hl : Nat} {sum : Bool} {win x : Nat} (h : Fr1 dat N tx L n hl sum win x) :
    OkS dat N (fun e : Unit => e) rawCmp (fun _ _ => False) (fun p => p.saw = false ∧ (p.pos = 0 ∨ p.pos = N)) where
  can := by
    rintro p ⟨hs, hp⟩ h0
    by_cases hp0 : p.pos = 0
    · rw [fr1_hd h p hs hp0]
      intro _ h2
      dsimp only at h2
      rw [h.blk] at h2
      omega
    · have hp := hp.resolve_left hp0
      exfalso
      unfold rdHd at h0
      rw [if_neg (by rw [hs]; decide)] at h0
      unfold rdHdr at h0
      rw [hp, skip_end, hdr_end] at h0
      dsimp only at h0
      split at h0 <;> omega
  fill := by
    rintro p ⟨hs, hp⟩ h0
    by_cases hp0 : p.pos = 0
    · obtain ⟨a1, a2, _⟩ := (fr1_fill (ini := fun e : Unit => e) (cmp := rawCmp) h p hs hp0).2 h0
      exact ⟨a1, .inr a2⟩
    · have hp := hp.resolve_left hp0
      exfalso
      have hh : (rdHd dat N (fun e : Unit => e) p).2 ≠ 0 := by
        unfold rdHd
        rw [if_neg (by rw [hs]; decide)]
        unfold rdHdr
        rw [hp, skip_end, hdr_end]
        dsimp only
        split <;> omega
      unfold rdFill at h0
      rw [if_neg hh] at h0
      exact hh h0
  off := fun _ _ h => h

theorem rawRead_t (S : Sent G) (hd : ∀ i, dat i < 256) (oa : Option Addr) (cp : Nat) (hv : View G oa N cp dat) (fb : Blk) (hfb : (2, fb) ∈ G) (hfn : 0 < fb.n) (hfv : fb.g 0 = .bool false)
    {tx : Nat → Nat} {L n hl : Nat} {sum : Bool} {win x : Nat} (h : Fr1 dat N tx L n hl sum win x) (hN : N < 2 ^ 60) :
    Trip Tryd.prog G 12 #[.slice oa N cp] [] (fun v om => ∃ out l D, v = .tuple #[out, .bool (decide (n = L ∧ (sum = true → x = xdig tx L % 4294967296)))] ∧ SlM 1 out l (u8f D) om ∧
      ((n = L ∧ (sum = true → x = xdig tx L % 4294967296)) → l = L ∧ ∀ i, i < L → D i = tx i)) := by
  obtain ⟨r, h1, h2, h3, h4⟩ := fr1_all (ini := fun e : Unit => e) rawGo h (PS.init ()) rfl rfl (by show ¬ (0 : Nat) < 0; omega) (fun _ => 0)
  have hle := h.le
  refine (implRead_t S hd oa cp hv hN (fun (_ : Unit) _ em => em = []) rawCmp (fun _ _ => False) (fun bb => fun _ _ _ _ _ hf => absurd hf id) rawGo (fun e => e) (fun _ _ _ h => h) fb hfb hfn hfv _ (raw_ok h) () rfl ⟨rfl, .inl rfl⟩ r (fun _ => 0) h1 (by omega)).mono ?_
  rintro v om ⟨out, rfl, hsl⟩
  refine ⟨out, r.2.1, r.1, by rw [h2], hsl, fun hg => ?_⟩
  exact h3 (by rw [h2, decide_eq_true hg])
end Go.Proofs.YtogmacnlpclgkaaDoor
