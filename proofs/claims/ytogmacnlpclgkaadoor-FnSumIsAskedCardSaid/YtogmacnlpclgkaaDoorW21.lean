/-
  WALKS 21: ReadFull into the buffer.
-/
import Derived.Test.YtogmacnlpclgkaaDoorW20
namespace Go.Proofs.YtogmacnlpclgkaaDoor
open Go Go.Eng
attribute [local irreducible] RO J Trip Quiet
set_option maxRecDepth 4000
variable {G : Mem} {S : Sent G} {dat : Nat → Nat} {N : Nat}

theorem atLeast0_t (src : Source S dat N) (m0 : Mem) :
    Trip Tryd.prog G 47 #[.iface src.t src.rv, .slice none 0 0, .int .i64 0] m0 (fun v m => m = m0 ∧ v = fullV S 0 0) := by
  refine Trip_of Tryd.func47 rfl (by show 3 ≤ _; decide) (args := [.iface src.t src.rv, .slice none 0 0, .int .i64 0]) fun c h0 hex => ?_
  refine run _ ?_
  refine J_condP rfl (fun hlt => absurd hlt (by omega)) (fun _ => ?_)
  refine run _ ?_
  refine J_loopS (σ := Unit) (fun _ => [(0, .iface src.t src.rv), (1, .slice none 0 0), (2, .int .i64 0), (6, .int .i64 0), (7, .nilIface)])
    (fun _ => m0) (fun _ => True) (fun _ => 0) () ⟨rfl, rfl, rfl, rfl, rfl, trivial⟩ (.refl _) trivial ?_
  rintro _ f _
  refine run _ ?_
  refine J_condP rfl (fun hg => ?_) (fun hl => absurd hl (by simp))
  refine run _ ?_
  refine J_ret ?_
  exact ends_retS [6, 7] ⟨rfl, (fullV_ok (Nat.le_refl _)).symm⟩
theorem full0_t (src : Source S dat N) (m0 : Mem) :
    Trip Tryd.prog G 36 #[.iface src.t src.rv, .slice none 0 0] m0 (fun v m => m = m0 ∧ v = fullV S 0 0) := by
  refine Trip_of Tryd.func36 rfl (by show 2 ≤ _; decide) (args := [.iface src.t src.rv, .slice none 0 0]) fun c h0 hex => ?_
  refine run _ ?_
  refine ro_callT (atLeast0_t src m0) ?_
  rintro v m ⟨rfl, rfl⟩
  rw [fullV_ok (Nat.le_refl 0)]
  refine runO _ ?_
  refine run _ ?_
  refine J_ret ?_
  exact ends_retS [4, 5] ⟨rfl, rfl⟩

/-- ReadFull into the whole buffer. -/
theorem fullB_t (src : Source S dat N) (q0 : src.σ) (v : Value) (size : Nat) (B : Nat → Nat) (bm : Mem) (hok : src.ok q0) (hb : BufN v size B bm) (hs : size ≤ 2 ^ 30) :
    Trip Tryd.prog G 36 #[.iface src.t src.rv, v] (bm ++ src.mem q0) (fun r m =>
      ∃ q' k bm', src.ok q' ∧ k = min size (N - src.pos q0) ∧ src.pos q' = src.pos q0 + k ∧ BufN v size (ov B k dat (src.pos q0)) bm' ∧ m = bm' ++ src.mem q' ∧ r = fullV S size k) := by
  rcases hb with ⟨rfl, rfl, rfl, hz⟩ | ⟨b, cap, Bk, rfl, rfl, hf, hn, hlc, hg, hz⟩
  · refine (full0_t src _).mono ?_
    rintro r m ⟨rfl, rfl⟩
    exact ⟨q0, 0, [], hok, by omega, rfl, .inl ⟨rfl, rfl, rfl, fun i => by rw [← hz i]; unfold u8f ov; rw [if_neg (by omega)]⟩, rfl, rfl⟩
  · refine (full_t src q0 b 0 size cap Bk hok hf (by omega) hlc (by omega)).mono ?_
    rintro r m ⟨q', k, h1, h2, h3, rfl, rfl⟩
    refine ⟨q', k, [(b, putB Bk 0 k dat (src.pos q0))], h1, h2, h3, .inr ⟨b, cap, _, rfl, rfl, hf, hn, hlc, fun i hi => ?_, fun i hi => ?_⟩, rfl, rfl⟩
    · show blit Bk.g 0 k (byteG dat (src.pos q0)) i = u8f _ i
      unfold u8f ov byteG
      by_cases h : i < k
      · rw [blit_in _ _ _ _ _ (by omega) (by omega), if_pos h, Nat.sub_zero]
      · rw [blit_out _ _ _ _ _ (by omega), if_neg h, hg i hi]; rfl
    · rw [← hz i hi]; unfold u8f ov; rw [if_neg (by omega)]
end Go.Proofs.YtogmacnlpclgkaaDoor
