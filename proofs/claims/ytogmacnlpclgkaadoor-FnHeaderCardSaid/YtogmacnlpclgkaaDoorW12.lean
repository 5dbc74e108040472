/-
  WALKS 12: FnHeader: what both say of a header agrees; the law's walk.
-/
import Derived.Test.YtogmacnlpclgkaaDoorW11
namespace Go.Proofs.YtogmacnlpclgkaaDoor
open Go Go.Eng
attribute [local irreducible] RO J Trip Quiet
variable {G : Mem}

theorem hZero_shift (x : Nat → Nat) (p q n : Nat) : hZero (fun i => x (p + i)) q n = hZero x (p + q) n := by
  unfold hZero; simp only [Nat.add_assoc]
theorem hSize_shift (x : Nat → Nat) (d p q : Nat) : hSize (fun i => x (p + i)) d q = hSize x d (p + q) := by
  unfold hSize le2 le8 le4
  simp only [Nat.add_assoc]
theorem head_wrong {x : Nat → Nat} {n : Nat} (h : headR x n = .wrong) : headV x n = none := by
  unfold headV
  unfold headR at h
  simp only at h
  generalize skipTo x n n 0 = p at *
  unfold hdrAt
  by_cases h4 : n - p < 4
  · rw [if_pos h4]
  rw [if_neg h4] at h ⊢
  by_cases hs : magicAt x p / 16 * 16 = 407710288
  · rw [if_pos (by omega)]
    cases isSkip x n p <;> rfl
  rw [if_neg hs] at h
  by_cases hm : magicAt x p ≠ 4247762216
  · rw [if_pos hm]
    cases isSkip x n p <;> rfl
  rw [if_neg hm] at h ⊢
  by_cases h5 : n - p < 5
  · rw [if_pos (by omega)]
  rw [if_neg h5] at h
  rw [if_neg (by omega)]
  simp only
  unfold specHdr at h
  simp only at h
  by_cases hr : x (p + 4) / 8 % 2 = 1
  · rw [if_pos hr]
  rw [if_neg hr] at h ⊢
  by_cases ha : n - p < 5 + hAll (x (p + 4))
  · rw [if_pos (by omega)]
  rw [if_neg ha] at h
  rw [if_neg (by omega)]
  rw [hZero_shift] at h
  by_cases hz : hZero x (p + (5 + hWin (x (p + 4)))) (hDict (x (p + 4))) = false
  · rw [if_pos (by rw [show p + 5 + hWin (x (p + 4)) = p + (5 + hWin (x (p + 4))) by omega]; exact hz)]
  rw [if_neg hz] at h
  generalize (if hSingle (x (p + 4)) = true then _ else _ : Nat) = w at h
  by_cases ho : hFcs (x (p + 4)) = 8 ∧ 64 ≤ x (p + (5 + hWin (x (p + 4)) + hDict (x (p + 4)) + 7))
  · rw [if_pos ho] at h; cases h
  rw [if_neg ho] at h
  by_cases hw : 8388608 < w
  · rw [if_pos hw] at h; cases h
  rw [if_neg hw] at h; cases h
theorem head_right {x : Nat → Nat} {n size win pos : Nat} (hx : ∀ i, x i < 256) (h : headR x n = .right size win pos) :
    headV x n = some (hSum (x (skipTo x n n 0 + 4)), hFcs (x (skipTo x n n 0 + 4)) != 0, size, win, skipTo x n n 0 + pos) := by
  unfold headV
  unfold headR at h
  simp only at h
  generalize skipTo x n n 0 = p at *
  unfold hdrAt
  by_cases h4 : n - p < 4
  · rw [if_pos h4] at h; cases h
  rw [if_neg h4] at h ⊢
  by_cases hs : magicAt x p / 16 * 16 = 407710288
  · rw [if_pos hs] at h; cases h
  rw [if_neg hs] at h
  by_cases hm : magicAt x p ≠ 4247762216
  · rw [if_pos hm] at h; cases h
  rw [if_neg hm] at h ⊢
  by_cases h5 : n - p < 5
  · rw [if_pos h5] at h; cases h
  rw [if_neg h5] at h
  rw [if_neg (by omega)]
  simp only
  unfold specHdr at h
  simp only at h
  by_cases hr : x (p + 4) / 8 % 2 = 1
  · rw [if_pos hr] at h; cases h
  rw [if_neg hr] at h ⊢
  by_cases ha : n - p < 5 + hAll (x (p + 4))
  · rw [if_pos ha] at h; cases h
  rw [if_neg ha] at h
  rw [if_neg (by omega)]
  rw [hZero_shift] at h
  have e5 : p + (5 + hWin (x (p + 4))) = p + 5 + hWin (x (p + 4)) := by omega
  rw [e5] at h
  by_cases hz : hZero x (p + 5 + hWin (x (p + 4))) (hDict (x (p + 4))) = false
  · rw [if_pos hz] at h; cases h
  rw [if_neg hz] at h ⊢
  by_cases ho : hFcs (x (p + 4)) = 8 ∧ 64 ≤ x (p + (5 + hWin (x (p + 4)) + hDict (x (p + 4)) + 7))
  · rw [if_pos ho] at h; cases h
  rw [if_neg ho, hSize_shift] at h
  rw [show p + (5 + hWin (x (p + 4)) + hDict (x (p + 4))) = p + 5 + hWin (x (p + 4)) + hDict (x (p + 4)) by omega] at h
  have hsz : hSize x (x (p + 4)) (p + 5 + hWin (x (p + 4)) + hDict (x (p + 4))) < 2 ^ 62 + 256 := by
    have hfz : hFcs (x (p + 4)) = 0 ∨ hFcs (x (p + 4)) = 1 ∨ hFcs (x (p + 4)) = 2 ∨ hFcs (x (p + 4)) = 4 ∨ hFcs (x (p + 4)) = 8 := by
      have hq4 : x (p + 4) / 64 = 0 ∨ x (p + 4) / 64 = 1 ∨ x (p + 4) / 64 = 2 ∨ x (p + 4) / 64 = 3 := by have := hx (p + 4); omega
      unfold hFcs
      split
      · split <;> simp
      · rcases hq4 with h | h | h | h <;> rw [h] <;> simp
    rw [hSize_numLow hfz]
    have := numLow_62 (y := fun i => x (p + 5 + hWin (x (p + 4)) + hDict (x (p + 4)) + i)) (n := hFcs (x (p + 4))) (fun _ => hx _) (by omega) (fun h8 => by
      have h9 : ¬ 64 ≤ x (p + (5 + hWin (x (p + 4)) + hDict (x (p + 4)) + 7)) := fun h => ho ⟨h8, h⟩
      rw [show p + 5 + hWin (x (p + 4)) + hDict (x (p + 4)) + 7 = p + (5 + hWin (x (p + 4)) + hDict (x (p + 4)) + 7) by omega]; omega)
    split <;> omega
  generalize hSize x (x (p + 4)) (p + 5 + hWin (x (p + 4)) + hDict (x (p + 4))) = sz at *
  rw [show x (p + 5) = (fun i => x (p + i)) 5 from rfl]
  generalize (if hSingle (x (p + 4)) = true then sz else hWindow ((fun i => x (p + i)) 5)) = w at *
  by_cases hw : 8388608 < w
  · rw [if_pos hw] at h; cases h
  rw [if_neg hw] at h
  cases h
  simp only
  rw [Nat.min_eq_left (by omega), Nat.min_eq_right (by omega), Nat.add_assoc]

theorem fnHeader_t (S : Sent G) (oa : Option Addr) (n cp : Nat) (x : Nat → Nat) (hx : ∀ i, x i < 256) (hv : View G oa n cp x) (fb : Blk) (hfb : (2, fb) ∈ G) (hfn : 0 < fb.n) (hfv : fb.g 0 = .bool false) :
    Trip Tryd.prog G 3 #[.slice oa n cp] [] (fun v _ => v = .bool true) := by
  refine Trip_of Tryd.func3 rfl (by show 1 ≤ _; decide) (args := [.slice oa n cp]) fun c h0 hex => ?_
  refine go _ ?_
  refine J_condP rfl (fun h1 => ?_) (fun h1 => ?_)
  · refine go _ ?_
    refine J_ret ?_
    exact ends_retS [2] rfl
  refine go _ ?_
  refine J_condP rfl (fun h2 => ?_) (fun h2 => ?_)
  · refine go _ ?_
    refine J_ret ?_
    exact ends_retS [2] rfl
  have hn : n ≤ 2 ^ 20 := by omega
  refine go _ ?_
  refine ro_callT (headOf_t oa n cp x hx hv (by omega)) ?_
  rintro v m ⟨rfl, a, b, e, vd, kn, sm, rfl, hr⟩
  refine go _ ?_
  refine ro_alloc z24 rfl hex fun wb hwb => ?_
  refine go _ ?_
  refine ro_storeAgg (s := 4) (vs := [.int .i64 a, .int .i64 b, .bool kn, .bool sm, .int .i64 e]) rfl rfl rfl rfl (fun v hv => by simp only [List.mem_cons, List.not_mem_nil, or_false] at hv; rcases hv with rfl | rfl | rfl | rfl | rfl <;> rfl) .here (by decide) rfl hex ?_
  refine go _ ?_
  refine J_condP rfl (fun h3 => ?_) (fun h3 => ?_)
  · refine go _ ?_
    refine J_ret ?_
    exact ends_retS [2] rfl
  refine go _ ?_
  refine ro_callT (header_t S hx oa cp hv.dv (by omega) fb hfb hfn hfv) ?_
  rintro v m ⟨rfl, rfl⟩
  cases hh : headR x n with
  | open_ => rw [hh] at hr; exact absurd (by rw [show vd = 0 from hr]; rfl) h3
  | wrong =>
    rw [hh] at hr
    obtain rfl : vd = 2 := hr
    rw [head_wrong hh]
    refine go _ ?_
    refine ro_alloc z28 rfl hex fun gb hgb => ?_
    refine go _ ?_
    refine ro_storeAgg (s := 4) (vs := [.int .i64 0, .int .i64 0, .bool false, .bool false, .int .i64 0]) rfl rfl rfl rfl (fun v hv => by simp only [List.mem_cons, List.not_mem_nil, or_false] at hv; rcases hv with rfl | rfl | rfl | rfl | rfl <;> rfl) .here (by decide) rfl hex ?_
    refine go _ ?_
    refine J_ret ?_
    exact ends_retS [2] rfl
  | right size win pos =>
    rw [hh] at hr
    obtain ⟨rfl, rfl, rfl, rfl, rfl, rfl⟩ := hr
    rw [head_right hx hh]
    simp only
    generalize hSum (x (skipTo x n n 0 + 4)) = sm
    generalize (hFcs (x (skipTo x n n 0 + 4)) != 0) = kn
    generalize skipTo x n n 0 + pos = e
    refine go _ ?_
    refine ro_alloc z28 rfl hex fun gb hgb => ?_
    refine go _ ?_
    refine ro_storeAgg (s := 4) (vs := [.int .i64 a, .int .i64 b, .bool kn, .bool sm, .int .i64 e]) rfl rfl rfl rfl (fun v hv => by simp only [List.mem_cons, List.not_mem_nil, or_false] at hv; rcases hv with rfl | rfl | rfl | rfl | rfl <;> rfl) .here (by decide) rfl hex ?_
    cases kn with
    | true =>
      refine go _ ?_
      refine J_ret ?_
      exact ends_retS [2] rfl
    | false =>
      refine go _ ?_
      refine J_ret ?_
      exact ends_retS [2] rfl
end Go.Proofs.YtogmacnlpclgkaaDoor
