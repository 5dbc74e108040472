/-
  WALKS 30: the laws' helpers: same, below, wakes.
-/
import Derived.Test.YtogmacnlpclgkaaDoorW29
namespace Go.Proofs.YtogmacnlpclgkaaDoor
open Go Go.Eng
attribute [local irreducible] RO J Trip Quiet
set_option maxRecDepth 20000
variable {G : Mem}

theorem same_t (oa oa2 : Option Addr) (n n2 cp cp2 : Nat) (z z2 : Nat → Nat) (hv : View G oa n cp z) (hv2 : View G oa2 n2 cp2 z2) (hn : n = n2) (hz : ∀ i, i < n → z i = z2 i) :
    Trip Tryd.prog G 13 #[.slice oa n cp, .slice oa2 n2 cp2] [] (fun v m => m = [] ∧ v = .bool true) := by
  subst hn
  refine Trip_of Tryd.func13 rfl (by show 2 ≤ _; decide) (args := [.slice oa n cp, .slice oa2 n cp2]) fun c h0 hex => ?_
  refine go _ ?_
  refine ro_convBS (z := z) (hv.mono fun p hp => hp) rfl rfl rfl rfl (by decide) rfl ?_
  refine go _ ?_
  refine ro_convBS (z := z2) (hv2.mono fun p hp => hp) rfl rfl rfl rfl (by decide) rfl ?_
  refine go _ ?_
  refine ro_eqStr (r := true) rfl rfl rfl (by rw [strOf_congr hz]; exact beq_self_eq_true _) rfl ?_
  refine go _ ?_
  refine J_ret ?_
  exact ends_retS [4] ⟨rfl, rfl⟩

theorem below_t (x : Int) (n : Nat) (hn : 0 < n) (hn2 : n < 2 ^ 62) : Trip Tryd.prog G 10 #[.int .i64 x, .int .i64 (n : Nat)] [] (fun v m => m = [] ∧ ∃ y : Nat, y < n ∧ v = .int .i64 (y : Nat)) := by
  refine Trip_of Tryd.func10 rfl (by show 2 ≤ _; decide) (args := [.int .i64 x, .int .i64 (n : Nat)]) fun c h0 hex => ?_
  have h1 : x.tmod n < n := Int.tmod_lt_of_pos x (by omega)
  have h2 : -(n : Int) < x.tmod n := Int.lt_tmod_of_pos x (by omega)
  refine go _ ?_
  refine ro_rem rfl rfl (by omega) rfl ?_
  generalize x.tmod n = r at h1 h2
  refine go _ ?_
  refine J_joinE (σ := Nat) [] (fun y => [(0, .int .i64 (y : Nat))]) (fun _ => []) (fun y => y < n) ?_ ?_
  · refine J_condP rfl (fun hneg => ?_) (fun hpos => ?_)
    · refine go _ ?_
      exact ⟨(r + n).toNat, by omega, ⟨by show Value.int _ _ = Value.int _ _; congr 1; omega, trivial⟩, .refl _⟩
    · refine go _ ?_
      exact ⟨r.toNat, by omega, ⟨by show Value.int _ _ = Value.int _ _; congr 1; omega, trivial⟩, .refl _⟩
  intro y f hy
  refine go _ ?_
  refine J_ret ?_
  exact ends_retS [4] ⟨rfl, y, hy, rfl⟩

theorem wakes_t (S : Sent G) (fb : Blk) (hfb : (2, fb) ∈ G) (hfn : 0 < fb.n) (hfv : fb.g 0 = .bool false) : Trip Tryd.prog G 9 #[] [] (fun v _ => v = .bool true) := by
  refine Trip_of Tryd.func9 rfl (by show 0 ≤ _; decide) (args := []) fun c h0 hex => ?_
  refine go _ ?_
  refine ro_buildSlice1 (z := .int .u8 0) (vs := [.int .u8 40, .int .u8 181, .int .u8 47, .int .u8 253, .int .u8 32, .int .u8 2, .int .u8 17, .int .u8 0, .int .u8 0, .int .u8 104, .int .u8 105]) rfl rfl z5 rfl rfl rfl rfl hex fun b hb => ?_
  refine go _ ?_
  have hv : View ([(b, listB [.int .u8 40, .int .u8 181, .int .u8 47, .int .u8 253, .int .u8 32, .int .u8 2, .int .u8 17, .int .u8 0, .int .u8 0, .int .u8 104, .int .u8 105] 5)] ++ G) (some ⟨b, 0, none⟩) 11 11 wakeF :=
    ⟨Nat.le_refl _, .inr ⟨b, 0, _, rfl, by simp; exact .inl rfl, fun _ => by show 0 + 11 ≤ 11; omega, fun i hi => by
      rw [Nat.zero_add]
      match i, hi with
      | 0, _ => rfl
      | 1, _ => rfl
      | 2, _ => rfl
      | 3, _ => rfl
      | 4, _ => rfl
      | 5, _ => rfl
      | 6, _ => rfl
      | 7, _ => rfl
      | 8, _ => rfl
      | 9, _ => rfl
      | 10, _ => rfl⟩⟩
  refine ro_callT (Trip.freeze (rawRead_t (S.add _) (fun i => list_lt (by decide) i) _ _ hv fb (List.mem_append.2 (.inr hfb)) hfn hfv (wake_fr fun _ _ => rfl) (by omega))) ?_ (fm := []) (hs := .refl _)
  rintro v m' ⟨om, ⟨out, l, D, rfl, hsl, hg⟩, rfl⟩
  obtain ⟨rfl, hD⟩ := hg ⟨rfl, fun h => absurd h (by decide)⟩
  obtain ⟨oa, cp, rfl⟩ := slmForm hsl
  have hvo := slmView hsl
  rw [show decide (2 = 2 ∧ (false = true → 0 = xdig (fun i => [104, 105].getD i 0) 2 % 4294967296)) = true by simp]
  refine go _ ?_
  refine ro_convBS (z := D) (hvo.mono fun p hp => by simp [hp]) rfl rfl rfl rfl (by decide) rfl ?_
  refine go _ ?_
  refine ro_eqStr (r := true) rfl rfl rfl ?_ rfl ?_
  · rw [strOf_congr hD]; exact beq_self_eq_true _
  refine go _ ?_
  refine J_ret ?_
  exact ends_retS [0] (post := []) (junk := (om ++ [(b, _)]) ++ []) rfl rfl (.refl _)
end Go.Proofs.YtogmacnlpclgkaaDoor
