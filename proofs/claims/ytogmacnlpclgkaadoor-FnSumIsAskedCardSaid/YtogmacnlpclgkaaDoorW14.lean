/-
  WALKS 14: setBufferSize; the window.
-/
import Derived.Test.YtogmacnlpclgkaaDoorW13
import Derived.Test.YtogmacnlpclgkaaDoorW9
namespace Go.Proofs.YtogmacnlpclgkaaDoor
open Go Go.Eng
attribute [local irreducible] RO J Trip Quiet
variable {G : Mem}

def u8f (S : Nat → Nat) : Nat → Value := fun i => .int .u8 ((S i : Nat) : Int)
/-- A buffer of bytes that holds S to its capacity and beyond (zeros). -/
abbrev BufN (v : Value) (len : Nat) (S : Nat → Nat) (sm : Mem) : Prop := BufM v len (u8f S) sm
theorem blit_zeros {S : Nat → Nat} {len k : Nat} (h : ∀ i, len ≤ i → S i = 0) : blit (u8f S) len k (fun _ => .int .u8 0) = u8f S := by
  funext i
  by_cases hi : len ≤ i ∧ i < len + k
  · rw [blit_in _ _ _ _ _ hi.1 hi.2]; unfold u8f; rw [h i hi.1]; rfl
  · rw [blit_out _ _ _ _ _ (by omega)]
theorem u8_inj {a : Nat} (h : Value.int .u8 ((a : Nat) : Int) = .int .u8 0) : a = 0 := by
  have := Value.int.inj h; omega

set_option maxRecDepth 4000 in
theorem setBuf_t (rb : Nat) (x : Int) (s : RS) (len size : Nat) (S : Nat → Nat) (bm : Mem) (hb : BufN s.buf len S bm) (hs : size ≤ 2 ^ 30) :
    Trip Tryd.prog G 53 #[.pointer (some ⟨rb, 0, none⟩), .int .i64 size] ((rb, rdB x s) :: bm) (fun _ m =>
      ∃ buf' bm', BufN buf' size S bm' ∧ m = (rb, rdB x (s.wBuf buf')) :: bm') := by
  refine Trip_of Tryd.func53 rfl (by show 2 ≤ _; decide) (args := [.pointer (some ⟨rb, 0, none⟩), .int .i64 size]) fun c h0 hex => ?_
  rw [← s.wBuf_self]
  generalize s.buf = bv at hb ⊢
  rcases hb with ⟨rfl, rfl, rfl, hS⟩ | ⟨b, cap, B, rfl, rfl, hf, ho, hlc, hcl, hS⟩
  · have hS0 : ∀ i, 0 ≤ i → S i = 0 := fun i _ => u8_inj (hS i)
    refine go _ ?_
    refine J_condP rfl (fun hlt => ?_) (fun hge => ?_)
    · refine go _ ?_
      refine ro_sliceNil rfl rfl rfl rfl rfl rfl ?_
      refine go _ ?_
      refine ro_appendBZ (len := 0) (k := size - 0) (S := u8f S) (sm := []) (fm := [(rb, rdB x (s.wBuf (.slice none 0 0)))]) rfl rfl rfl rfl z5 (by decide) rfl rfl (.inl ⟨rfl, rfl, rfl, hS⟩) (.refl _) rfl (by omega) hex rfl ?_
      intro v' sm' hv
      rw [blit_zeros hS0, Nat.zero_add, Nat.sub_zero] at hv
      rcases hv with ⟨rfl, h1, rfl, _⟩ | ⟨b, cap, B, rfl, rfl, g1, g2, g3, g4, g5⟩
      · omega
      · refine go _ ?_
        exact ends_normalS [] (post := (rb, rdB x (s.wBuf (.slice (some ⟨b, 0, none⟩) size cap))) :: [(b, B)]) (junk := []) ⟨_, _, .inr ⟨b, cap, B, rfl, rfl, g1, g2, g3, g4, g5⟩, rfl⟩
    · obtain rfl : size = 0 := by omega
      refine go _ ?_
      refine ro_sliceNil rfl rfl rfl rfl rfl rfl ?_
      refine go _ ?_
      exact ends_normalS [] (post := (rb, rdB x (s.wBuf (.slice none 0 0))) :: []) (junk := []) ⟨_, [], .inl ⟨rfl, rfl, rfl, hS⟩, rfl⟩
  · refine go _ ?_
    refine J_condP rfl (fun hlt => ?_) (fun hge => ?_)
    · have hS0 : ∀ i, cap ≤ i → S i = 0 := fun i h => u8_inj (hS i h)
      refine go _ ?_
      refine ro_appendBZ (len := cap) (k := size - cap) (S := u8f S) (sm := [(b, B)]) (fm := [(rb, rdB x (s.wBuf (.slice (some ⟨b, 0, none⟩) len cap)))]) rfl rfl rfl rfl z5 (by decide) rfl rfl (.inr ⟨b, cap, B, rfl, rfl, hf, ho, Nat.le_refl _, hcl, hS⟩) (List.Perm.swap _ _ _) rfl (by omega) hex rfl ?_
      intro v' sm' hv
      rw [blit_zeros hS0, show cap + (size - cap) = size by omega] at hv
      rcases hv with ⟨rfl, h1, rfl, _⟩ | ⟨b, cap, B, rfl, rfl, g1, g2, g3, g4, g5⟩
      · omega
      · refine go _ ?_
        exact ends_normalS [] (post := (rb, rdB x (s.wBuf (.slice (some ⟨b, 0, none⟩) size cap))) :: [(b, B)]) (junk := []) ⟨_, _, .inr ⟨b, cap, B, rfl, rfl, g1, g2, g3, g4, g5⟩, rfl⟩
    · refine go _ ?_
      exact ends_normalS [] (post := (rb, rdB x (s.wBuf (.slice (some ⟨b, 0, none⟩) size cap))) :: [(b, B)]) (junk := []) ⟨_, _, .inr ⟨b, cap, B, rfl, rfl, hf, ho, by omega, hcl, hS⟩, rfl⟩
end Go.Proofs.YtogmacnlpclgkaaDoor
