/-
  TEXTS MERGED: C15, EngN, C16.
-/
import Derived.Test.YtogmacnlpclgkaaDoorK30
import Derived.Test.YtogmacnlpclgkaaDoorK07
/-! COMPRESSED BLOCKS 15: tables of numbers made of FSE tables: lengths. -/
namespace Go.Proofs.YtogmacnlpclgkaaDoor
open Go Go.Eng Go.Pz
attribute [local irreducible] RO J Trip Quiet
set_option maxRecDepth 20000
variable {G : Mem} {d : Nat → Nat}

/-- A table of the program's own, as it lies in memory. -/
def BaseG (G : Mem) (gid : Nat) (l : List (Nat × Nat)) : Prop := ∃ B1 lb lo cp B2, (gid, B1) ∈ G ∧ 0 < B1.n ∧ B1.g 0 = .slice (some ⟨lb, lo, none⟩) l.length cp ∧ (lb, B2) ∈ G ∧ lo + l.length ≤ B2.n ∧ ∀ i, i < l.length → B2.g (lo + i) = .int .u32 (((l.getD i (0, 0)).1 + (l.getD i (0, 0)).2 * 16777216 : Nat) : Int)
theorem litB_ok : ∀ i, i < 20 → (litBase.getD i (0, 0)).1 < 16777216 ∧ (litBase.getD i (0, 0)).2 < 32 := by decide
theorem matB_ok : ∀ i, i < 21 → (matBase.getD i (0, 0)).1 < 16777216 ∧ (matBase.getD i (0, 0)).2 < 32 := by decide

theorem base0_t (S : Sent G) (hB : BaseG G 4 litBase) (rb fb bb : Nat) (x : Int) (s : RS) (off : Int) (L fc bc : Nat) (FB BB : Blk) (sy bt bs : Nat → Nat) (hF : FsG FB.g L sy bt bs) (hFn : L * 3 ≤ FB.n) (hBn : L * 4 ≤ BB.n) (hBf : BB.fr = (0, 0)) (hL : L ≤ 512) (hsy : ∀ p, p < L → sy p < 256) (hbt : ∀ p, p < L → bt p < 256 ∧ bs p < 65536)
    (h : (∀ p, p < L → sy p ≤ 35) ∨ 0 < L ∧ 35 < sy 0) :
    Trip Tryd.prog G 82 #[.pointer (some ⟨rb, 0, none⟩), .int .i64 off, .slice (some ⟨fb, 0, none⟩) L fc, .slice (some ⟨bb, 0, none⟩) L bc] [(rb, rdB x s), (fb, FB), (bb, BB)] (fun v m =>
      if 0 < L ∧ 35 < sy 0 then ErrV S .z v ∧ m = [(rb, rdB x s), (fb, FB), (bb, BB)]
      else v = .nilIface ∧ ∃ g, SqG g L (fun p => sqCell 0 (sy p) (bt p) (bs p)) ∧ m = [(rb, rdB x s), (fb, FB), (bb, ⟨BB.n, g, BB.T, (0, 0)⟩)]) := by
  refine Trip_of Tryd.func82 rfl (by show 4 ≤ _; decide) (args := [.pointer (some ⟨rb, 0, none⟩), .int .i64 off, .slice (some ⟨fb, 0, none⟩) L fc, .slice (some ⟨bb, 0, none⟩) L bc]) fun c h0 hex => ?_
  obtain ⟨B1, lb, lo, lc, B2, g1, g2, g3, g4, g5, g6⟩ := hB
  refine go _ ?_
  refine J_loopL (σ := BasS) [0, 1, 3, 14, 15] (fun t => [(16, .int .i64 (t.i : Nat))]) (fun t => (rb, rdB x s) :: (fb, FB) :: (bb, ⟨BB.n, t.g, BB.T, (0, 0)⟩) :: t.jk) (fun t => t.i ≤ L ∧ SqG t.g t.i (fun p => sqCell 0 (sy p) (bt p) (bs p)) ∧ (t.i = 0 → t.g = BB.g) ∧ (0 < t.i → sy 0 ≤ 35)) (fun t => L - t.i) ⟨0, BB.g, []⟩
    (.skip (.skip (.cons (by unfold Blk.obj; rw [hBf]; rfl) .nil))) ⟨Nat.zero_le _, fun p hp => absurd hp (Nat.not_lt_zero _), fun _ => rfl, fun h => absurd h (Nat.not_lt_zero _)⟩ ?_
  rintro ⟨i, g, jk⟩ f ⟨hi, hg, hg0, hi0⟩
  dsimp only at hi hg hg0 hi0 ⊢
  refine go _ ?_
  refine J_condP rfl (fun hlt => ?_) (fun hge => ?_)
  · obtain ⟨f1, f2, f3⟩ := hF i (by omega)
    have hsi := hsy i (by omega)
    have hbi := hbt i (by omega)
    refine go _ ?_
    refine ro_loadAgg (s := 2) rfl rfl rfl (.there .here) (by omega) rfl ?_
    rw [tab3 (a := .int .u8 (sy i : Nat)) (b := .int .u8 (bt i : Nat)) (c := .int .u16 (bs i : Nat)) (by rw [← f1]; congr 1; omega) (by rw [← f2]; congr 1; omega) (by rw [← f3]; congr 1; omega)]
    refine go _ ?_
    refine ro_alloc z157 rfl hex fun eb heb => ?_
    refine go _ ?_
    refine ro_storeAgg (s := 2) (vs := [.int .u8 (sy i : Nat), .int .u8 (bt i : Nat), .int .u16 (bs i : Nat)]) rfl rfl rfl rfl (fun v hv => by simp only [List.mem_cons, List.not_mem_nil, or_false] at hv; rcases hv with rfl | rfl | rfl <;> rfl) .here (Nat.le_refl 3) rfl hex ?_
    refine go _ ?_
    refine ro_build1 (vs := [.int .u32 0, .int .u8 0, .int .u8 (bt i : Nat), .int .u16 (bs i : Nat)]) rfl rfl z144 rfl rfl rfl rfl ?_
    refine go _ ?_
    refine ro_alloc z144 rfl hex fun cb hcb => ?_
    refine go _ ?_
    refine ro_storeAgg (s := 3) (vs := [.int .u32 0, .int .u8 0, .int .u8 (bt i : Nat), .int .u16 (bs i : Nat)]) rfl rfl rfl rfl (fun v hv => by simp only [List.mem_cons, List.not_mem_nil, or_false] at hv; rcases hv with rfl | rfl | rfl | rfl <;> rfl) .here (Nat.le_refl 4) rfl hex ?_
    refine go _ ?_
    refine J_joinE (σ := Nat × Nat) [0, 1, 3, 9, 11, 14, 15, 16] (fun _ => []) (fun t => (cb, listB [.int .u32 (t.1 : Nat), .int .u8 (t.2 : Nat), .int .u8 (bt i : Nat), .int .u16 (bs i : Nat)] 144) :: (eb, listB [.int .u8 (sy i : Nat), .int .u8 (bt i : Nat), .int .u16 (bs i : Nat)] 157) :: (rb, rdB x s) :: (fb, FB) :: (bb, ⟨BB.n, g, BB.T, (0, 0)⟩) :: jk) (fun t => t = sqBase 0 (sy i) ∧ sy i ≤ 35) ?_ ?_
    · refine J_condP rfl (fun hlow => ?_) (fun hhigh => ?_)
      · refine go _ ?_
        refine ⟨(sy i, 0), ⟨(if_pos (by omega) : (if sy i < 16 then (sy i, 0) else litBase.getD (sy i - 16) (0, 0)) = _).symm, by omega⟩, joined (.cons (blk_tab rfl rfl rfl rfl) (.cons (blk_tab rfl rfl rfl rfl) (.refl _)))⟩
      · refine go _ ?_
        refine J_condP rfl (fun hbig => ?_) (fun hsm => ?_)
        · have h0L : 0 < L ∧ 35 < sy 0 := by
            rcases h with h | h
            · have := h i (by omega); omega
            · exact h
          have hi0' : i = 0 := by
            rcases Nat.eq_zero_or_pos i with h | h
            · exact h
            · have := hi0 h; omega
          rw [hg0 hi0'] at *
          refine go _ ?_
          refine ro_callT (merr_t S rb x s _ _) ?_
          rintro v m ⟨⟨b', rfl⟩, rfl⟩
          refine go _ ?_
          refine J_ret ?_
          exact ends_retS [8] (post := [(rb, rdB x s), (fb, FB), (bb, BB)]) (junk := (cb, _) :: (eb, _) :: jk) (by rw [if_pos h0L]; exact ⟨⟨b', rfl⟩, rfl⟩) rfl (.skip (.trans (.of_perm (pA [_, _] [_, _] jk)) (.skip (.cons (by unfold Blk.obj; rw [hBf]; rfl) (.refl _)))))
        · have hlen : litBase.length = 20 := rfl
          have hent := g6 (sy i - 16) (by omega)
          have hbd := litB_ok (sy i - 16) (by omega)
          have hq : sqBase 0 (sy i) = litBase.getD (sy i - 16) (0, 0) := (if_neg (by omega) : (if sy i < 16 then (sy i, 0) else litBase.getD (sy i - 16) (0, 0)) = _)
          rw [hlen] at g3 g5
          obtain ⟨⟨a, mm⟩, ham⟩ : ∃ t, t = litBase.getD (sy i - 16) (0, 0) := ⟨_, rfl⟩
          rw [← ham] at hent hbd hq
          dsimp only at hent hbd
          refine go _ ?_
          refine ro_loadA rfl rfl (List.mem_append.2 (.inr g1)) g2 g3 rfl ?_
          refine go _ ?_
          refine ro_loadA rfl rfl (List.mem_append.2 (.inr g4)) (by omega) hent rfl ?_
          refine go _ ?_
          rw [show (a + mm * 16777216) % 16777216 = a by omega, show (a + mm * 16777216) / 2 ^ 24 = mm by omega]
          refine ⟨(a, mm), ⟨hq.symm, by omega⟩, joined (.cons (blk_tab rfl rfl rfl rfl) (.cons (blk_tab rfl rfl rfl rfl) (.refl _)))⟩
    · rintro _ f ⟨rfl, htop⟩
      refine go _ ?_
      refine ro_loadAgg (s := 3) rfl rfl rfl .here (Nat.le_refl 4) rfl ?_
      refine go _ ?_
      refine ro_storeAgg (s := 3) (vs := cellL (sqCell 0 (sy i) (bt i) (bs i))) rfl rfl rfl rfl (fun v hv => by unfold cellL at hv; simp only [List.mem_cons, List.not_mem_nil, or_false] at hv; rcases hv with rfl | rfl | rfl | rfl <;> rfl) (.there (.there (.there (.there .here)))) (by show 0 + i * (3 + 1) + (3 + 1) ≤ BB.n; omega) rfl hex ?_
      refine go _ ?_
      refine ⟨⟨i + 1, blit g (0 + i * (3 + 1)) (3 + 1) (listG (cellL (sqCell 0 (sy i) (bt i) (bs i)))), (cb, _) :: (eb, _) :: jk⟩, by dsimp only; omega, ⟨by dsimp only; omega, SqG.snoc (c := fun p => sqCell 0 (sy p) (bt p) (bs p)) hg (by omega), fun h => absurd h (Nat.succ_ne_zero _), fun _ => ?_⟩, ⟨rfl, rfl, rfl, rfl, rfl, rfl, trivial⟩, .of_perm (pA [_, _] [_, _, _] jk)⟩
      by_cases h0 : i = 0
      · rw [← h0]; omega
      · exact hi0 (by omega)
  · refine go _ ?_
    refine J_ret ?_
    have hno : ¬ (0 < L ∧ 35 < sy 0) := fun h => by have := hi0 (by omega); omega
    obtain rfl : i = L := by omega
    exact ends_retS [8] (post := [(rb, rdB x s), (fb, FB), (bb, ⟨BB.n, g, BB.T, (0, 0)⟩)]) (junk := jk) (by rw [if_neg hno]; exact ⟨rfl, g, hg, rfl⟩) rfl (.refl _)

theorem base2_t (S : Sent G) (hB : BaseG G 5 matBase) (rb fb bb : Nat) (x : Int) (s : RS) (off : Int) (L fc bc : Nat) (FB BB : Blk) (sy bt bs : Nat → Nat) (hF : FsG FB.g L sy bt bs) (hFn : L * 3 ≤ FB.n) (hBn : L * 4 ≤ BB.n) (hBf : BB.fr = (0, 0)) (hL : L ≤ 512) (hsy : ∀ p, p < L → sy p < 256) (hbt : ∀ p, p < L → bt p < 256 ∧ bs p < 65536)
    (h : (∀ p, p < L → sy p ≤ 52) ∨ 0 < L ∧ 52 < sy 0) :
    Trip Tryd.prog G 86 #[.pointer (some ⟨rb, 0, none⟩), .int .i64 off, .slice (some ⟨fb, 0, none⟩) L fc, .slice (some ⟨bb, 0, none⟩) L bc] [(rb, rdB x s), (fb, FB), (bb, BB)] (fun v m =>
      if 0 < L ∧ 52 < sy 0 then ErrV S .z v ∧ m = [(rb, rdB x s), (fb, FB), (bb, BB)]
      else v = .nilIface ∧ ∃ g, SqG g L (fun p => sqCell 2 (sy p) (bt p) (bs p)) ∧ m = [(rb, rdB x s), (fb, FB), (bb, ⟨BB.n, g, BB.T, (0, 0)⟩)]) := by
  refine Trip_of Tryd.func86 rfl (by show 4 ≤ _; decide) (args := [.pointer (some ⟨rb, 0, none⟩), .int .i64 off, .slice (some ⟨fb, 0, none⟩) L fc, .slice (some ⟨bb, 0, none⟩) L bc]) fun c h0 hex => ?_
  obtain ⟨B1, lb, lo, lc, B2, g1, g2, g3, g4, g5, g6⟩ := hB
  refine go _ ?_
  refine J_loopL (σ := BasS) [0, 1, 3, 14, 15] (fun t => [(16, .int .i64 (t.i : Nat))]) (fun t => (rb, rdB x s) :: (fb, FB) :: (bb, ⟨BB.n, t.g, BB.T, (0, 0)⟩) :: t.jk) (fun t => t.i ≤ L ∧ SqG t.g t.i (fun p => sqCell 2 (sy p) (bt p) (bs p)) ∧ (t.i = 0 → t.g = BB.g) ∧ (0 < t.i → sy 0 ≤ 52)) (fun t => L - t.i) ⟨0, BB.g, []⟩
    (.skip (.skip (.cons (by unfold Blk.obj; rw [hBf]; rfl) .nil))) ⟨Nat.zero_le _, fun p hp => absurd hp (Nat.not_lt_zero _), fun _ => rfl, fun h => absurd h (Nat.not_lt_zero _)⟩ ?_
  rintro ⟨i, g, jk⟩ f ⟨hi, hg, hg0, hi0⟩
  dsimp only at hi hg hg0 hi0 ⊢
  refine go _ ?_
  refine J_condP rfl (fun hlt => ?_) (fun hge => ?_)
  · obtain ⟨f1, f2, f3⟩ := hF i (by omega)
    have hsi := hsy i (by omega)
    have hbi := hbt i (by omega)
    refine go _ ?_
    refine ro_loadAgg (s := 2) rfl rfl rfl (.there .here) (by omega) rfl ?_
    rw [tab3 (a := .int .u8 (sy i : Nat)) (b := .int .u8 (bt i : Nat)) (c := .int .u16 (bs i : Nat)) (by rw [← f1]; congr 1; omega) (by rw [← f2]; congr 1; omega) (by rw [← f3]; congr 1; omega)]
    refine go _ ?_
    refine ro_alloc z157 rfl hex fun eb heb => ?_
    refine go _ ?_
    refine ro_storeAgg (s := 2) (vs := [.int .u8 (sy i : Nat), .int .u8 (bt i : Nat), .int .u16 (bs i : Nat)]) rfl rfl rfl rfl (fun v hv => by simp only [List.mem_cons, List.not_mem_nil, or_false] at hv; rcases hv with rfl | rfl | rfl <;> rfl) .here (Nat.le_refl 3) rfl hex ?_
    refine go _ ?_
    refine ro_build1 (vs := [.int .u32 0, .int .u8 0, .int .u8 (bt i : Nat), .int .u16 (bs i : Nat)]) rfl rfl z144 rfl rfl rfl rfl ?_
    refine go _ ?_
    refine ro_alloc z144 rfl hex fun cb hcb => ?_
    refine go _ ?_
    refine ro_storeAgg (s := 3) (vs := [.int .u32 0, .int .u8 0, .int .u8 (bt i : Nat), .int .u16 (bs i : Nat)]) rfl rfl rfl rfl (fun v hv => by simp only [List.mem_cons, List.not_mem_nil, or_false] at hv; rcases hv with rfl | rfl | rfl | rfl <;> rfl) .here (Nat.le_refl 4) rfl hex ?_
    refine go _ ?_
    refine J_joinE (σ := Nat × Nat) [0, 1, 3, 9, 11, 14, 15, 16] (fun _ => []) (fun t => (cb, listB [.int .u32 (t.1 : Nat), .int .u8 (t.2 : Nat), .int .u8 (bt i : Nat), .int .u16 (bs i : Nat)] 144) :: (eb, listB [.int .u8 (sy i : Nat), .int .u8 (bt i : Nat), .int .u16 (bs i : Nat)] 157) :: (rb, rdB x s) :: (fb, FB) :: (bb, ⟨BB.n, g, BB.T, (0, 0)⟩) :: jk) (fun t => t = sqBase 2 (sy i) ∧ sy i ≤ 52) ?_ ?_
    · refine J_condP rfl (fun hlow => ?_) (fun hhigh => ?_)
      · refine go _ ?_
        refine ⟨(sy i + 3, 0), ⟨(if_pos (by omega) : (if sy i < 32 then (sy i + 3, 0) else matBase.getD (sy i - 32) (0, 0)) = _).symm, by omega⟩, joined (.cons (blk_tab rfl rfl rfl rfl) (.cons (blk_tab rfl rfl rfl rfl) (.refl _)))⟩
      · refine go _ ?_
        refine J_condP rfl (fun hbig => ?_) (fun hsm => ?_)
        · have h0L : 0 < L ∧ 52 < sy 0 := by
            rcases h with h | h
            · have := h i (by omega); omega
            · exact h
          have hi0' : i = 0 := by
            rcases Nat.eq_zero_or_pos i with h | h
            · exact h
            · have := hi0 h; omega
          rw [hg0 hi0'] at *
          refine go _ ?_
          refine ro_callT (merr_t S rb x s _ _) ?_
          rintro v m ⟨⟨b', rfl⟩, rfl⟩
          refine go _ ?_
          refine J_ret ?_
          exact ends_retS [8] (post := [(rb, rdB x s), (fb, FB), (bb, BB)]) (junk := (cb, _) :: (eb, _) :: jk) (by rw [if_pos h0L]; exact ⟨⟨b', rfl⟩, rfl⟩) rfl (.skip (.trans (.of_perm (pA [_, _] [_, _] jk)) (.skip (.cons (by unfold Blk.obj; rw [hBf]; rfl) (.refl _)))))
        · have hlen : matBase.length = 21 := rfl
          have hent := g6 (sy i - 32) (by omega)
          have hbd := matB_ok (sy i - 32) (by omega)
          have hq : sqBase 2 (sy i) = matBase.getD (sy i - 32) (0, 0) := (if_neg (by omega) : (if sy i < 32 then (sy i + 3, 0) else matBase.getD (sy i - 32) (0, 0)) = _)
          rw [hlen] at g3 g5
          obtain ⟨⟨a, mm⟩, ham⟩ : ∃ t, t = matBase.getD (sy i - 32) (0, 0) := ⟨_, rfl⟩
          rw [← ham] at hent hbd hq
          dsimp only at hent hbd
          refine go _ ?_
          refine ro_loadA rfl rfl (List.mem_append.2 (.inr g1)) g2 g3 rfl ?_
          refine go _ ?_
          refine ro_loadA rfl rfl (List.mem_append.2 (.inr g4)) (by omega) hent rfl ?_
          refine go _ ?_
          rw [show (a + mm * 16777216) % 16777216 = a by omega, show (a + mm * 16777216) / 2 ^ 24 = mm by omega]
          refine ⟨(a, mm), ⟨hq.symm, by omega⟩, joined (.cons (blk_tab rfl rfl rfl rfl) (.cons (blk_tab rfl rfl rfl rfl) (.refl _)))⟩
    · rintro _ f ⟨rfl, htop⟩
      refine go _ ?_
      refine ro_loadAgg (s := 3) rfl rfl rfl .here (Nat.le_refl 4) rfl ?_
      refine go _ ?_
      refine ro_storeAgg (s := 3) (vs := cellL (sqCell 2 (sy i) (bt i) (bs i))) rfl rfl rfl rfl (fun v hv => by unfold cellL at hv; simp only [List.mem_cons, List.not_mem_nil, or_false] at hv; rcases hv with rfl | rfl | rfl | rfl <;> rfl) (.there (.there (.there (.there .here)))) (by show 0 + i * (3 + 1) + (3 + 1) ≤ BB.n; omega) rfl hex ?_
      refine go _ ?_
      refine ⟨⟨i + 1, blit g (0 + i * (3 + 1)) (3 + 1) (listG (cellL (sqCell 2 (sy i) (bt i) (bs i)))), (cb, _) :: (eb, _) :: jk⟩, by dsimp only; omega, ⟨by dsimp only; omega, SqG.snoc (c := fun p => sqCell 2 (sy p) (bt p) (bs p)) hg (by omega), fun h => absurd h (Nat.succ_ne_zero _), fun _ => ?_⟩, ⟨rfl, rfl, rfl, rfl, rfl, rfl, trivial⟩, .of_perm (pA [_, _] [_, _, _] jk)⟩
      by_cases h0 : i = 0
      · rw [← h0]; omega
      · exact hi0 (by omega)
  · refine go _ ?_
    refine J_ret ?_
    have hno : ¬ (0 < L ∧ 52 < sy 0) := fun h => by have := hi0 (by omega); omega
    obtain rfl : i = L := by omega
    exact ends_retS [8] (post := [(rb, rdB x s), (fb, FB), (bb, ⟨BB.n, g, BB.T, (0, 0)⟩)]) (junk := jk) (by rw [if_neg hno]; exact ⟨rfl, g, hg, rfl⟩) rfl (.refl _)
end Go.Proofs.YtogmacnlpclgkaaDoor

/-! ENGINE N: slices written out, of aggregates. -/
namespace Go.Eng
open Go

def idxA : Nat → List (List Value) → List (Nat × Value)
  | _, [] => []
  | k, a :: r => (k, .agg a.toArray) :: idxA (k + 1) r

theorem fold_get (off : Nat) : ∀ (a : List Value) (k : Nat) (X : Array Value), off + k + a.length ≤ X.size →
    ((a.zipIdx k).foldl (fun cs (x : Value × Nat) => cs.setIfInBounds (off + x.2) x.1) X).size = X.size ∧
    ∀ i, ((a.zipIdx k).foldl (fun cs (x : Value × Nat) => cs.setIfInBounds (off + x.2) x.1) X)[i]? = if off + k ≤ i ∧ i < off + k + a.length then a[i - (off + k)]? else X[i]?
  | [], k, X, _ => ⟨rfl, fun i => by
      simp only [List.zipIdx_nil, List.foldl_nil, List.length_nil]
      rw [if_neg (by omega)]⟩
  | v :: a, k, X, h => by
    simp only [List.length_cons] at h
    obtain ⟨h1, h2⟩ := fold_get off a (k + 1) (X.setIfInBounds (off + k) v) (by rw [Array.size_setIfInBounds]; omega)
    simp only [List.zipIdx_cons, List.foldl_cons, List.length_cons]
    refine ⟨by rw [h1]; simp, fun i => ?_⟩
    rw [h2 i]
    by_cases hi : i = off + k
    · subst hi
      rw [if_neg (by omega), if_pos (by omega)]
      rw [Nat.sub_self, List.getElem?_cons_zero, Array.getElem?_setIfInBounds_self_of_lt (by omega)]
    · by_cases hj : off + (k + 1) ≤ i ∧ i < off + (k + 1) + a.length
      · rw [if_pos hj, if_pos (by omega), show i - (off + k) = (i - (off + (k + 1))) + 1 by omega, List.getElem?_cons_succ]
      · rw [if_neg hj, if_neg (by omega), Array.getElem?_setIfInBounds_ne (by omega)]

theorem fill_agg (s : Nat) : ∀ (aggs : List (List Value)) (k : Nat) (X : Array Value), (∀ a ∈ aggs, a.length = s) → X.size = (k + aggs.length) * s →
    ∃ Y, Instr.fill (fun i => some (i * s, s)) X (idxA k aggs) = some Y ∧ Y.size = X.size ∧ ∀ i, Y[i]? = if k * s ≤ i then aggs.flatten[i - k * s]? else X[i]?
  | [], k, X, _, hX => ⟨X, rfl, rfl, fun i => by
      by_cases h : k * s ≤ i
      · rw [if_pos h, Array.getElem?_eq_none (by simp only [List.length_nil, Nat.add_zero] at hX; omega)]; simp
      · rw [if_neg h]⟩
  | a :: r, k, X, ha, hX => by
    have hal := ha a List.mem_cons_self
    have e1 : (k + (a :: r).length) * s = k * s + s + r.length * s := by simp only [List.length_cons]; rw [show k + (r.length + 1) = k + 1 + r.length by omega, Nat.add_mul, Nat.add_mul, Nat.one_mul]
    obtain ⟨f1, f2⟩ := fold_get (k * s) a 0 X (by omega)
    obtain ⟨Y, y1, y2, y3⟩ := fill_agg s r (k + 1) ((a.zipIdx 0).foldl (fun cs (x : Value × Nat) => cs.setIfInBounds (k * s + x.2) x.1) X) (fun b hb => ha b (List.mem_cons_of_mem _ hb)) (by rw [f1, hX, e1, show k + 1 + r.length = k + 1 + r.length from rfl, Nat.add_mul, Nat.add_mul, Nat.one_mul])
    refine ⟨Y, ?_, by rw [y2, f1], fun i => ?_⟩
    · rw [idxA]
      unfold Instr.fill
      have h1 : ((Value.agg a.toArray).cells.size ≠ s || decide (k * s + (Value.agg a.toArray).cells.size > X.size)) = false := by
        have e3 : (Value.agg a.toArray).cells.size = s := hal
        rw [e3, Bool.or_eq_false_iff]
        exact ⟨decide_eq_false (fun h => h rfl), decide_eq_false (by omega)⟩
      show (if (((Value.agg a.toArray).cells.size ≠ s || decide (k * s + (Value.agg a.toArray).cells.size > X.size)) = true) then none else Instr.fill (fun i => some (i * s, s)) ((Value.agg a.toArray).cells.zipIdx.foldl (fun cs (x : Value × Nat) => cs.setIfInBounds (k * s + x.2) x.1) X) (idxA (k + 1) r)) = some Y
      rw [h1, if_neg (by decide), ← y1]
      congr 1
      show a.toArray.zipIdx.foldl _ X = _
      simp
    · rw [y3 i]
      have e2 : (k + 1) * s = k * s + s := by rw [Nat.add_mul, Nat.one_mul]
      rw [e2, List.flatten_cons]
      by_cases h : k * s + s ≤ i
      · rw [if_pos h, if_pos (by omega), List.getElem?_append_right (by omega), hal]
        congr 1; omega
      · rw [if_neg h, f2 i, Nat.add_zero]
        by_cases h2 : k * s ≤ i
        · rw [if_pos (by omega), if_pos h2, List.getElem?_append_left (by omega)]
        · rw [if_neg (by omega), if_neg h2]

section
variable {P : Program} [ty : TyC P] {G : Mem} {qs : List FuncId} {c : World} {n : Nat} {h0 : Base} {ops : Array Oper} {Q : Fr → Mem → Prop} {rest : List Oper} {f : Fr} {m : Mem}
variable {d : Option Tmp} {T T' tt : TypeId} {pos : String} {aft : Array Edge}

theorem ro_buildSliceA {l : List (Nat × Operand)} {len e s : Nat} {zs : List Value} (aggs : List (List Value)) (hT : TyC.tk P T = .sl e) (hs : TyC.sz P e = s + 1) (hz : zeroL P e = some zs) (hlen : Nat.ble (len * (s + 1)) 16777216 = true) (hl0 : 0 < len)
    (hal : ∀ a ∈ aggs, a.length = s + 1) (hln : aggs.length = len) (hp : evParts f l = idxA 0 aggs) (hd : dstOk n d = true) (hex : h0.ex = false)
    (h : ∀ b, h0.h.size ≤ b → RO P G qs c n h0 ops Q rest (updo f d (.slice (some ⟨b, 0, none⟩) len len)) ((b, listB aggs.flatten e) :: m)) :
    RO P G qs c n h0 ops Q (⟨d, .buildSlice T len l.toArray, tt, pos, aft, none⟩ :: rest) f m := by
  refine ro_effA rfl rfl hd fun hp' w hw hc a r => ?_
  unfold zeroL at hz
  simp only [Option.bind_eq_some_iff, Option.map_eq_some_iff] at hz
  obtain ⟨i, hi, zz, hz, hzc⟩ := hz
  have hsz := hw.size
  have hlen' : len * (s + 1) ≤ 16777216 := Nat.le_of_ble_eq_true hlen
  obtain ⟨Y, y1, y2, y3⟩ := fill_agg (s + 1) aggs 0 ((Array.range (len * (s + 1))).map fun x => zz.cells[x % zz.cells.size]!) hal (by simp [hln])
  have hY : Y = aggs.flatten.toArray := by
    apply Array.ext_getElem?
    intro j
    rw [y3 j, if_pos (by omega)]
    simp
  subst hY
  refine upon_val_ok (w' := { w with heap := w.heap.push (listB aggs.flatten e).obj }) (v := .slice (some ⟨w.heap.size, 0, none⟩) len len) ?_
    ⟨_, _, _, r.put hd _, ⟨rfl, hc.2⟩, ?_, by rw [hc.1]; exact Ext.push hex _ _, h w.heap.size (by rw [hc.1]; exact hsz)⟩
  · rw [r.eval, listB_obj]
    have he := evParts_eq f l
    have hrun : (Instr.buildSlice T len (l.toArray.map fun (i, x) => (i, ev f x))).run P w = .ok (.slice (some ⟨w.heap.size, 0, none⟩) len len) { w with heap := w.heap.push (.cells aggs.flatten.toArray e) } := by
      rw [he, hp]
      simp only [Instr.buildSlice, Sem.run_bind, run_underlying (u_sl hT), Result.andThen_ok, run_sizeOf hs (by omega)]
      have h1 : ¬ (len * (s + 1) > 2 ^ 24) := by omega
      have h3 : ¬ (len * (s + 1) = 0) := by
        have h4 : 0 < len * (s + 1) := Nat.mul_pos hl0 (Nat.succ_pos s)
        exact Nat.ne_of_gt h4
      simp only [h1, if_false, h3, Sem.run_bind, zeroValue, typeInfo, run_program, hi, hz, Result.andThen_ok, Sem.run_pure]
      rw [y1]
      simp [newRow]
    simp only [execOp, Sem.run_bind, hrun, Result.andThen_ok, Sem.run_pure]
  · rw [hc.1]; exact hw.push hex _

/-- The value of an array literal of aggregates. -/
theorem ro_buildArrA {l : List (Nat × Operand)} {len e s : Nat} {zs : List Value} (aggs : List (List Value)) (hk : TyC.tk P T = .arr len e) (hs : TyC.sz P e = s + 1) (hz : zeroL P T = some zs) (hzl : zs.length = len * (s + 1))
    (hal : ∀ a ∈ aggs, a.length = s + 1) (hln : aggs.length = len) (hp : evParts f l = idxA 0 aggs) (hd : dstOk n d = true)
    (h : RO P G qs c n h0 ops Q rest (updo f d (.agg aggs.flatten.toArray)) m) : RO P G qs c n h0 ops Q (⟨d, .build T l.toArray, tt, pos, aft, none⟩ :: rest) f m := by
  refine ro_build (fun w => ?_) hd h
  unfold zeroL at hz
  simp only [Option.bind_eq_some_iff, Option.map_eq_some_iff] at hz
  obtain ⟨i, hi, z, hz, rfl⟩ := hz
  obtain ⟨Y, y1, y2, y3⟩ := fill_agg (s + 1) aggs 0 z.cells hal (by rw [← Array.length_toList, hzl, hln, Nat.zero_add])
  have hY : Y = aggs.flatten.toArray := by
    apply Array.ext_getElem?
    intro j
    rw [y3 j, if_pos (by omega)]
    simp
  subst hY
  rw [evParts_eq, hp]
  simp only [Instr.build, Sem.run_bind, zeroValue, typeInfo, run_program, Result.andThen_ok, hi, Sem.run_pure, hz, run_underlying (u_arr hk), run_sizeOf hs (by omega)]
  rw [y1]
  rfl
end
end Go.Eng

/-! COMPRESSED BLOCKS 16: the tables that need not be told. -/
namespace Go.Proofs.YtogmacnlpclgkaaDoor
open Go Go.Eng Go.Pz
attribute [local irreducible] RO J Trip Quiet
set_option maxRecDepth 20000
variable {G : Mem} {d : Nat → Nat}

theorem flat_get : ∀ (l : List (Nat × Nat × Nat × Nat)) (p j : Nat), p < l.length → j < 4 → listG (l.map fun t => cellL (cellOf t)).flatten (p * 4 + j) = listG (cellL (cellOf (l.getD p (0, 0, 0, 0)))) j
  | [], p, j, h, _ => absurd h (Nat.not_lt_zero _)
  | t :: l, 0, j, _, hj => by
    show (cellL (cellOf t) ++ (l.map fun t => cellL (cellOf t)).flatten).getD (0 * 4 + j) undef = (cellL (cellOf t)).getD j undef
    rw [Nat.zero_mul, Nat.zero_add, List.getD_eq_getElem?_getD, List.getD_eq_getElem?_getD, List.getElem?_append_left (by show j < 4; exact hj)]
  | t :: l, p + 1, j, h, hj => by
    have ih := flat_get l p j (by simp only [List.length_cons] at h; omega) hj
    show (cellL (cellOf t) ++ (l.map fun t => cellL (cellOf t)).flatten).getD ((p + 1) * 4 + j) undef = _
    rw [List.getD_eq_getElem?_getD, List.getElem?_append_right (by show 4 ≤ (p + 1) * 4 + j; omega)]
    rw [show (p + 1) * 4 + j - (cellL (cellOf t)).length = p * 4 + j by show (p + 1) * 4 + j - 4 = _; omega, ← List.getD_eq_getElem?_getD]
    exact ih
/-- A table that the program writes out. -/
def PreT (kind : Nat) (v : Value) (m : Mem) : Prop := ∃ b B, v = .slice (some ⟨b, 0, none⟩) (2 ^ (preTab kind).log) (2 ^ (preTab kind).log) ∧ m = [(b, B)] ∧ B.fr = (0, 0) ∧ B.n = 2 ^ (preTab kind).log * 4 ∧ SqG B.g (2 ^ (preTab kind).log) (preTab kind).cell

set_option maxHeartbeats 4000000 in
theorem pre0_t : Trip Tryd.prog G 81 #[] [] (PreT 0) := by
  refine Trip_of Tryd.func81 rfl (by show 0 ≤ _; decide) (args := []) fun c h0 hex => ?_
  refine go _ ?_
  refine ro_build1 (vs := [.int .u32 0, .int .u8 0, .int .u8 4, .int .u16 0]) rfl rfl z144 rfl rfl rfl rfl ?_
  refine ro_build1 (vs := [.int .u32 0, .int .u8 0, .int .u8 4, .int .u16 16]) rfl rfl z144 rfl rfl rfl rfl ?_
  refine ro_build1 (vs := [.int .u32 1, .int .u8 0, .int .u8 5, .int .u16 32]) rfl rfl z144 rfl rfl rfl rfl ?_
  refine ro_build1 (vs := [.int .u32 3, .int .u8 0, .int .u8 5, .int .u16 0]) rfl rfl z144 rfl rfl rfl rfl ?_
  refine ro_build1 (vs := [.int .u32 4, .int .u8 0, .int .u8 5, .int .u16 0]) rfl rfl z144 rfl rfl rfl rfl ?_
  refine ro_build1 (vs := [.int .u32 6, .int .u8 0, .int .u8 5, .int .u16 0]) rfl rfl z144 rfl rfl rfl rfl ?_
  refine ro_build1 (vs := [.int .u32 7, .int .u8 0, .int .u8 5, .int .u16 0]) rfl rfl z144 rfl rfl rfl rfl ?_
  refine ro_build1 (vs := [.int .u32 9, .int .u8 0, .int .u8 5, .int .u16 0]) rfl rfl z144 rfl rfl rfl rfl ?_
  refine ro_build1 (vs := [.int .u32 10, .int .u8 0, .int .u8 5, .int .u16 0]) rfl rfl z144 rfl rfl rfl rfl ?_
  refine ro_build1 (vs := [.int .u32 12, .int .u8 0, .int .u8 5, .int .u16 0]) rfl rfl z144 rfl rfl rfl rfl ?_
  refine ro_build1 (vs := [.int .u32 14, .int .u8 0, .int .u8 6, .int .u16 0]) rfl rfl z144 rfl rfl rfl rfl ?_
  refine ro_build1 (vs := [.int .u32 16, .int .u8 1, .int .u8 5, .int .u16 0]) rfl rfl z144 rfl rfl rfl rfl ?_
  refine ro_build1 (vs := [.int .u32 20, .int .u8 1, .int .u8 5, .int .u16 0]) rfl rfl z144 rfl rfl rfl rfl ?_
  refine ro_build1 (vs := [.int .u32 22, .int .u8 1, .int .u8 5, .int .u16 0]) rfl rfl z144 rfl rfl rfl rfl ?_
  refine ro_build1 (vs := [.int .u32 28, .int .u8 2, .int .u8 5, .int .u16 0]) rfl rfl z144 rfl rfl rfl rfl ?_
  refine ro_build1 (vs := [.int .u32 32, .int .u8 3, .int .u8 5, .int .u16 0]) rfl rfl z144 rfl rfl rfl rfl ?_
  refine ro_build1 (vs := [.int .u32 48, .int .u8 4, .int .u8 5, .int .u16 0]) rfl rfl z144 rfl rfl rfl rfl ?_
  refine ro_build1 (vs := [.int .u32 64, .int .u8 6, .int .u8 5, .int .u16 32]) rfl rfl z144 rfl rfl rfl rfl ?_
  refine ro_build1 (vs := [.int .u32 128, .int .u8 7, .int .u8 5, .int .u16 0]) rfl rfl z144 rfl rfl rfl rfl ?_
  refine ro_build1 (vs := [.int .u32 256, .int .u8 8, .int .u8 6, .int .u16 0]) rfl rfl z144 rfl rfl rfl rfl ?_
  refine ro_build1 (vs := [.int .u32 1024, .int .u8 10, .int .u8 6, .int .u16 0]) rfl rfl z144 rfl rfl rfl rfl ?_
  refine ro_build1 (vs := [.int .u32 4096, .int .u8 12, .int .u8 6, .int .u16 0]) rfl rfl z144 rfl rfl rfl rfl ?_
  refine ro_build1 (vs := [.int .u32 0, .int .u8 0, .int .u8 4, .int .u16 32]) rfl rfl z144 rfl rfl rfl rfl ?_
  refine ro_build1 (vs := [.int .u32 1, .int .u8 0, .int .u8 4, .int .u16 0]) rfl rfl z144 rfl rfl rfl rfl ?_
  refine ro_build1 (vs := [.int .u32 2, .int .u8 0, .int .u8 5, .int .u16 0]) rfl rfl z144 rfl rfl rfl rfl ?_
  refine ro_build1 (vs := [.int .u32 4, .int .u8 0, .int .u8 5, .int .u16 32]) rfl rfl z144 rfl rfl rfl rfl ?_
  refine ro_build1 (vs := [.int .u32 5, .int .u8 0, .int .u8 5, .int .u16 0]) rfl rfl z144 rfl rfl rfl rfl ?_
  refine ro_build1 (vs := [.int .u32 7, .int .u8 0, .int .u8 5, .int .u16 32]) rfl rfl z144 rfl rfl rfl rfl ?_
  refine ro_build1 (vs := [.int .u32 8, .int .u8 0, .int .u8 5, .int .u16 0]) rfl rfl z144 rfl rfl rfl rfl ?_
  refine ro_build1 (vs := [.int .u32 10, .int .u8 0, .int .u8 5, .int .u16 32]) rfl rfl z144 rfl rfl rfl rfl ?_
  refine ro_build1 (vs := [.int .u32 11, .int .u8 0, .int .u8 5, .int .u16 0]) rfl rfl z144 rfl rfl rfl rfl ?_
  refine ro_build1 (vs := [.int .u32 13, .int .u8 0, .int .u8 6, .int .u16 0]) rfl rfl z144 rfl rfl rfl rfl ?_
  refine ro_build1 (vs := [.int .u32 16, .int .u8 1, .int .u8 5, .int .u16 32]) rfl rfl z144 rfl rfl rfl rfl ?_
  refine ro_build1 (vs := [.int .u32 18, .int .u8 1, .int .u8 5, .int .u16 0]) rfl rfl z144 rfl rfl rfl rfl ?_
  refine ro_build1 (vs := [.int .u32 22, .int .u8 1, .int .u8 5, .int .u16 32]) rfl rfl z144 rfl rfl rfl rfl ?_
  refine ro_build1 (vs := [.int .u32 24, .int .u8 2, .int .u8 5, .int .u16 0]) rfl rfl z144 rfl rfl rfl rfl ?_
  refine ro_build1 (vs := [.int .u32 32, .int .u8 3, .int .u8 5, .int .u16 32]) rfl rfl z144 rfl rfl rfl rfl ?_
  refine ro_build1 (vs := [.int .u32 40, .int .u8 3, .int .u8 5, .int .u16 0]) rfl rfl z144 rfl rfl rfl rfl ?_
  refine ro_build1 (vs := [.int .u32 64, .int .u8 6, .int .u8 4, .int .u16 0]) rfl rfl z144 rfl rfl rfl rfl ?_
  refine ro_build1 (vs := [.int .u32 64, .int .u8 6, .int .u8 4, .int .u16 16]) rfl rfl z144 rfl rfl rfl rfl ?_
  refine ro_build1 (vs := [.int .u32 128, .int .u8 7, .int .u8 5, .int .u16 32]) rfl rfl z144 rfl rfl rfl rfl ?_
  refine ro_build1 (vs := [.int .u32 512, .int .u8 9, .int .u8 6, .int .u16 0]) rfl rfl z144 rfl rfl rfl rfl ?_
  refine ro_build1 (vs := [.int .u32 2048, .int .u8 11, .int .u8 6, .int .u16 0]) rfl rfl z144 rfl rfl rfl rfl ?_
  refine ro_build1 (vs := [.int .u32 0, .int .u8 0, .int .u8 4, .int .u16 48]) rfl rfl z144 rfl rfl rfl rfl ?_
  refine ro_build1 (vs := [.int .u32 1, .int .u8 0, .int .u8 4, .int .u16 16]) rfl rfl z144 rfl rfl rfl rfl ?_
  refine ro_build1 (vs := [.int .u32 2, .int .u8 0, .int .u8 5, .int .u16 32]) rfl rfl z144 rfl rfl rfl rfl ?_
  refine ro_build1 (vs := [.int .u32 3, .int .u8 0, .int .u8 5, .int .u16 32]) rfl rfl z144 rfl rfl rfl rfl ?_
  refine ro_build1 (vs := [.int .u32 5, .int .u8 0, .int .u8 5, .int .u16 32]) rfl rfl z144 rfl rfl rfl rfl ?_
  refine ro_build1 (vs := [.int .u32 6, .int .u8 0, .int .u8 5, .int .u16 32]) rfl rfl z144 rfl rfl rfl rfl ?_
  refine ro_build1 (vs := [.int .u32 8, .int .u8 0, .int .u8 5, .int .u16 32]) rfl rfl z144 rfl rfl rfl rfl ?_
  refine ro_build1 (vs := [.int .u32 9, .int .u8 0, .int .u8 5, .int .u16 32]) rfl rfl z144 rfl rfl rfl rfl ?_
  refine ro_build1 (vs := [.int .u32 11, .int .u8 0, .int .u8 5, .int .u16 32]) rfl rfl z144 rfl rfl rfl rfl ?_
  refine ro_build1 (vs := [.int .u32 12, .int .u8 0, .int .u8 5, .int .u16 32]) rfl rfl z144 rfl rfl rfl rfl ?_
  refine ro_build1 (vs := [.int .u32 15, .int .u8 0, .int .u8 6, .int .u16 0]) rfl rfl z144 rfl rfl rfl rfl ?_
  refine ro_build1 (vs := [.int .u32 18, .int .u8 1, .int .u8 5, .int .u16 32]) rfl rfl z144 rfl rfl rfl rfl ?_
  refine ro_build1 (vs := [.int .u32 20, .int .u8 1, .int .u8 5, .int .u16 32]) rfl rfl z144 rfl rfl rfl rfl ?_
  refine ro_build1 (vs := [.int .u32 24, .int .u8 2, .int .u8 5, .int .u16 32]) rfl rfl z144 rfl rfl rfl rfl ?_
  refine ro_build1 (vs := [.int .u32 28, .int .u8 2, .int .u8 5, .int .u16 32]) rfl rfl z144 rfl rfl rfl rfl ?_
  refine ro_build1 (vs := [.int .u32 40, .int .u8 3, .int .u8 5, .int .u16 32]) rfl rfl z144 rfl rfl rfl rfl ?_
  refine ro_build1 (vs := [.int .u32 48, .int .u8 4, .int .u8 5, .int .u16 32]) rfl rfl z144 rfl rfl rfl rfl ?_
  refine ro_build1 (vs := [.int .u32 65536, .int .u8 16, .int .u8 6, .int .u16 0]) rfl rfl z144 rfl rfl rfl rfl ?_
  refine ro_build1 (vs := [.int .u32 32768, .int .u8 15, .int .u8 6, .int .u16 0]) rfl rfl z144 rfl rfl rfl rfl ?_
  refine ro_build1 (vs := [.int .u32 16384, .int .u8 14, .int .u8 6, .int .u16 0]) rfl rfl z144 rfl rfl rfl rfl ?_
  refine ro_build1 (vs := [.int .u32 8192, .int .u8 13, .int .u8 6, .int .u16 0]) rfl rfl z144 rfl rfl rfl rfl ?_
  refine ro_buildSliceA (s := 3) (preL0.map fun t => cellL (cellOf t)) rfl rfl z144 rfl (by decide) (fun a ha => ?_) rfl rfl rfl hex fun b hb => ?_
  · obtain ⟨t, _, rfl⟩ := List.mem_map.1 ha
    rfl
  refine go _ ?_
  refine J_ret ?_
  exact ends_retS [0] (post := [(b, _)]) (junk := []) ⟨b, _, rfl, rfl, rfl, rfl, fun p hp j hj => flat_get preL0 p j hp hj⟩ rfl (.refl _)

set_option maxHeartbeats 4000000 in
theorem pre1_t : Trip Tryd.prog G 83 #[] [] (PreT 1) := by
  refine Trip_of Tryd.func83 rfl (by show 0 ≤ _; decide) (args := []) fun c h0 hex => ?_
  refine go _ ?_
  refine ro_build1 (vs := [.int .u32 1, .int .u8 0, .int .u8 5, .int .u16 0]) rfl rfl z144 rfl rfl rfl rfl ?_
  refine ro_build1 (vs := [.int .u32 61, .int .u8 6, .int .u8 4, .int .u16 0]) rfl rfl z144 rfl rfl rfl rfl ?_
  refine ro_build1 (vs := [.int .u32 509, .int .u8 9, .int .u8 5, .int .u16 0]) rfl rfl z144 rfl rfl rfl rfl ?_
  refine ro_build1 (vs := [.int .u32 32765, .int .u8 15, .int .u8 5, .int .u16 0]) rfl rfl z144 rfl rfl rfl rfl ?_
  refine ro_build1 (vs := [.int .u32 2097149, .int .u8 21, .int .u8 5, .int .u16 0]) rfl rfl z144 rfl rfl rfl rfl ?_
  refine ro_build1 (vs := [.int .u32 5, .int .u8 3, .int .u8 5, .int .u16 0]) rfl rfl z144 rfl rfl rfl rfl ?_
  refine ro_build1 (vs := [.int .u32 125, .int .u8 7, .int .u8 4, .int .u16 0]) rfl rfl z144 rfl rfl rfl rfl ?_
  refine ro_build1 (vs := [.int .u32 4093, .int .u8 12, .int .u8 5, .int .u16 0]) rfl rfl z144 rfl rfl rfl rfl ?_
  refine ro_build1 (vs := [.int .u32 262141, .int .u8 18, .int .u8 5, .int .u16 0]) rfl rfl z144 rfl rfl rfl rfl ?_
  refine ro_build1 (vs := [.int .u32 8388605, .int .u8 23, .int .u8 5, .int .u16 0]) rfl rfl z144 rfl rfl rfl rfl ?_
  refine ro_build1 (vs := [.int .u32 29, .int .u8 5, .int .u8 5, .int .u16 0]) rfl rfl z144 rfl rfl rfl rfl ?_
  refine ro_build1 (vs := [.int .u32 253, .int .u8 8, .int .u8 4, .int .u16 0]) rfl rfl z144 rfl rfl rfl rfl ?_
  refine ro_build1 (vs := [.int .u32 16381, .int .u8 14, .int .u8 5, .int .u16 0]) rfl rfl z144 rfl rfl rfl rfl ?_
  refine ro_build1 (vs := [.int .u32 1048573, .int .u8 20, .int .u8 5, .int .u16 0]) rfl rfl z144 rfl rfl rfl rfl ?_
  refine ro_build1 (vs := [.int .u32 1, .int .u8 2, .int .u8 5, .int .u16 0]) rfl rfl z144 rfl rfl rfl rfl ?_
  refine ro_build1 (vs := [.int .u32 125, .int .u8 7, .int .u8 4, .int .u16 16]) rfl rfl z144 rfl rfl rfl rfl ?_
  refine ro_build1 (vs := [.int .u32 2045, .int .u8 11, .int .u8 5, .int .u16 0]) rfl rfl z144 rfl rfl rfl rfl ?_
  refine ro_build1 (vs := [.int .u32 131069, .int .u8 17, .int .u8 5, .int .u16 0]) rfl rfl z144 rfl rfl rfl rfl ?_
  refine ro_build1 (vs := [.int .u32 4194301, .int .u8 22, .int .u8 5, .int .u16 0]) rfl rfl z144 rfl rfl rfl rfl ?_
  refine ro_build1 (vs := [.int .u32 13, .int .u8 4, .int .u8 5, .int .u16 0]) rfl rfl z144 rfl rfl rfl rfl ?_
  refine ro_build1 (vs := [.int .u32 253, .int .u8 8, .int .u8 4, .int .u16 16]) rfl rfl z144 rfl rfl rfl rfl ?_
  refine ro_build1 (vs := [.int .u32 8189, .int .u8 13, .int .u8 5, .int .u16 0]) rfl rfl z144 rfl rfl rfl rfl ?_
  refine ro_build1 (vs := [.int .u32 524285, .int .u8 19, .int .u8 5, .int .u16 0]) rfl rfl z144 rfl rfl rfl rfl ?_
  refine ro_build1 (vs := [.int .u32 2, .int .u8 1, .int .u8 5, .int .u16 0]) rfl rfl z144 rfl rfl rfl rfl ?_
  refine ro_build1 (vs := [.int .u32 61, .int .u8 6, .int .u8 4, .int .u16 16]) rfl rfl z144 rfl rfl rfl rfl ?_
  refine ro_build1 (vs := [.int .u32 1021, .int .u8 10, .int .u8 5, .int .u16 0]) rfl rfl z144 rfl rfl rfl rfl ?_
  refine ro_build1 (vs := [.int .u32 65533, .int .u8 16, .int .u8 5, .int .u16 0]) rfl rfl z144 rfl rfl rfl rfl ?_
  refine ro_build1 (vs := [.int .u32 268435453, .int .u8 28, .int .u8 5, .int .u16 0]) rfl rfl z144 rfl rfl rfl rfl ?_
  refine ro_build1 (vs := [.int .u32 134217725, .int .u8 27, .int .u8 5, .int .u16 0]) rfl rfl z144 rfl rfl rfl rfl ?_
  refine ro_build1 (vs := [.int .u32 67108861, .int .u8 26, .int .u8 5, .int .u16 0]) rfl rfl z144 rfl rfl rfl rfl ?_
  refine ro_build1 (vs := [.int .u32 33554429, .int .u8 25, .int .u8 5, .int .u16 0]) rfl rfl z144 rfl rfl rfl rfl ?_
  refine ro_build1 (vs := [.int .u32 16777213, .int .u8 24, .int .u8 5, .int .u16 0]) rfl rfl z144 rfl rfl rfl rfl ?_
  refine ro_buildSliceA (s := 3) (preL1.map fun t => cellL (cellOf t)) rfl rfl z144 rfl (by decide) (fun a ha => ?_) rfl rfl rfl hex fun b hb => ?_
  · obtain ⟨t, _, rfl⟩ := List.mem_map.1 ha
    rfl
  refine go _ ?_
  refine J_ret ?_
  exact ends_retS [0] (post := [(b, _)]) (junk := []) ⟨b, _, rfl, rfl, rfl, rfl, fun p hp j hj => flat_get preL1 p j hp hj⟩ rfl (.refl _)

set_option maxHeartbeats 4000000 in
theorem pre2_t : Trip Tryd.prog G 85 #[] [] (PreT 2) := by
  refine Trip_of Tryd.func85 rfl (by show 0 ≤ _; decide) (args := []) fun c h0 hex => ?_
  refine go _ ?_
  refine ro_build1 (vs := [.int .u32 3, .int .u8 0, .int .u8 6, .int .u16 0]) rfl rfl z144 rfl rfl rfl rfl ?_
  refine ro_build1 (vs := [.int .u32 4, .int .u8 0, .int .u8 4, .int .u16 0]) rfl rfl z144 rfl rfl rfl rfl ?_
  refine ro_build1 (vs := [.int .u32 5, .int .u8 0, .int .u8 5, .int .u16 32]) rfl rfl z144 rfl rfl rfl rfl ?_
  refine ro_build1 (vs := [.int .u32 6, .int .u8 0, .int .u8 5, .int .u16 0]) rfl rfl z144 rfl rfl rfl rfl ?_
  refine ro_build1 (vs := [.int .u32 8, .int .u8 0, .int .u8 5, .int .u16 0]) rfl rfl z144 rfl rfl rfl rfl ?_
  refine ro_build1 (vs := [.int .u32 9, .int .u8 0, .int .u8 5, .int .u16 0]) rfl rfl z144 rfl rfl rfl rfl ?_
  refine ro_build1 (vs := [.int .u32 11, .int .u8 0, .int .u8 5, .int .u16 0]) rfl rfl z144 rfl rfl rfl rfl ?_
  refine ro_build1 (vs := [.int .u32 13, .int .u8 0, .int .u8 6, .int .u16 0]) rfl rfl z144 rfl rfl rfl rfl ?_
  refine ro_build1 (vs := [.int .u32 16, .int .u8 0, .int .u8 6, .int .u16 0]) rfl rfl z144 rfl rfl rfl rfl ?_
  refine ro_build1 (vs := [.int .u32 19, .int .u8 0, .int .u8 6, .int .u16 0]) rfl rfl z144 rfl rfl rfl rfl ?_
  refine ro_build1 (vs := [.int .u32 22, .int .u8 0, .int .u8 6, .int .u16 0]) rfl rfl z144 rfl rfl rfl rfl ?_
  refine ro_build1 (vs := [.int .u32 25, .int .u8 0, .int .u8 6, .int .u16 0]) rfl rfl z144 rfl rfl rfl rfl ?_
  refine ro_build1 (vs := [.int .u32 28, .int .u8 0, .int .u8 6, .int .u16 0]) rfl rfl z144 rfl rfl rfl rfl ?_
  refine ro_build1 (vs := [.int .u32 31, .int .u8 0, .int .u8 6, .int .u16 0]) rfl rfl z144 rfl rfl rfl rfl ?_
  refine ro_build1 (vs := [.int .u32 34, .int .u8 0, .int .u8 6, .int .u16 0]) rfl rfl z144 rfl rfl rfl rfl ?_
  refine ro_build1 (vs := [.int .u32 37, .int .u8 1, .int .u8 6, .int .u16 0]) rfl rfl z144 rfl rfl rfl rfl ?_
  refine ro_build1 (vs := [.int .u32 41, .int .u8 1, .int .u8 6, .int .u16 0]) rfl rfl z144 rfl rfl rfl rfl ?_
  refine ro_build1 (vs := [.int .u32 47, .int .u8 2, .int .u8 6, .int .u16 0]) rfl rfl z144 rfl rfl rfl rfl ?_
  refine ro_build1 (vs := [.int .u32 59, .int .u8 3, .int .u8 6, .int .u16 0]) rfl rfl z144 rfl rfl rfl rfl ?_
  refine ro_build1 (vs := [.int .u32 83, .int .u8 4, .int .u8 6, .int .u16 0]) rfl rfl z144 rfl rfl rfl rfl ?_
  refine ro_build1 (vs := [.int .u32 131, .int .u8 7, .int .u8 6, .int .u16 0]) rfl rfl z144 rfl rfl rfl rfl ?_
  refine ro_build1 (vs := [.int .u32 515, .int .u8 9, .int .u8 6, .int .u16 0]) rfl rfl z144 rfl rfl rfl rfl ?_
  refine ro_build1 (vs := [.int .u32 4, .int .u8 0, .int .u8 4, .int .u16 16]) rfl rfl z144 rfl rfl rfl rfl ?_
  refine ro_build1 (vs := [.int .u32 5, .int .u8 0, .int .u8 4, .int .u16 0]) rfl rfl z144 rfl rfl rfl rfl ?_
  refine ro_build1 (vs := [.int .u32 6, .int .u8 0, .int .u8 5, .int .u16 32]) rfl rfl z144 rfl rfl rfl rfl ?_
  refine ro_build1 (vs := [.int .u32 7, .int .u8 0, .int .u8 5, .int .u16 0]) rfl rfl z144 rfl rfl rfl rfl ?_
  refine ro_build1 (vs := [.int .u32 9, .int .u8 0, .int .u8 5, .int .u16 32]) rfl rfl z144 rfl rfl rfl rfl ?_
  refine ro_build1 (vs := [.int .u32 10, .int .u8 0, .int .u8 5, .int .u16 0]) rfl rfl z144 rfl rfl rfl rfl ?_
  refine ro_build1 (vs := [.int .u32 12, .int .u8 0, .int .u8 6, .int .u16 0]) rfl rfl z144 rfl rfl rfl rfl ?_
  refine ro_build1 (vs := [.int .u32 15, .int .u8 0, .int .u8 6, .int .u16 0]) rfl rfl z144 rfl rfl rfl rfl ?_
  refine ro_build1 (vs := [.int .u32 18, .int .u8 0, .int .u8 6, .int .u16 0]) rfl rfl z144 rfl rfl rfl rfl ?_
  refine ro_build1 (vs := [.int .u32 21, .int .u8 0, .int .u8 6, .int .u16 0]) rfl rfl z144 rfl rfl rfl rfl ?_
  refine ro_build1 (vs := [.int .u32 24, .int .u8 0, .int .u8 6, .int .u16 0]) rfl rfl z144 rfl rfl rfl rfl ?_
  refine ro_build1 (vs := [.int .u32 27, .int .u8 0, .int .u8 6, .int .u16 0]) rfl rfl z144 rfl rfl rfl rfl ?_
  refine ro_build1 (vs := [.int .u32 30, .int .u8 0, .int .u8 6, .int .u16 0]) rfl rfl z144 rfl rfl rfl rfl ?_
  refine ro_build1 (vs := [.int .u32 33, .int .u8 0, .int .u8 6, .int .u16 0]) rfl rfl z144 rfl rfl rfl rfl ?_
  refine ro_build1 (vs := [.int .u32 35, .int .u8 1, .int .u8 6, .int .u16 0]) rfl rfl z144 rfl rfl rfl rfl ?_
  refine ro_build1 (vs := [.int .u32 39, .int .u8 1, .int .u8 6, .int .u16 0]) rfl rfl z144 rfl rfl rfl rfl ?_
  refine ro_build1 (vs := [.int .u32 43, .int .u8 2, .int .u8 6, .int .u16 0]) rfl rfl z144 rfl rfl rfl rfl ?_
  refine ro_build1 (vs := [.int .u32 51, .int .u8 3, .int .u8 6, .int .u16 0]) rfl rfl z144 rfl rfl rfl rfl ?_
  refine ro_build1 (vs := [.int .u32 67, .int .u8 4, .int .u8 6, .int .u16 0]) rfl rfl z144 rfl rfl rfl rfl ?_
  refine ro_build1 (vs := [.int .u32 99, .int .u8 5, .int .u8 6, .int .u16 0]) rfl rfl z144 rfl rfl rfl rfl ?_
  refine ro_build1 (vs := [.int .u32 259, .int .u8 8, .int .u8 6, .int .u16 0]) rfl rfl z144 rfl rfl rfl rfl ?_
  refine ro_build1 (vs := [.int .u32 4, .int .u8 0, .int .u8 4, .int .u16 32]) rfl rfl z144 rfl rfl rfl rfl ?_
  refine ro_build1 (vs := [.int .u32 4, .int .u8 0, .int .u8 4, .int .u16 48]) rfl rfl z144 rfl rfl rfl rfl ?_
  refine ro_build1 (vs := [.int .u32 5, .int .u8 0, .int .u8 4, .int .u16 16]) rfl rfl z144 rfl rfl rfl rfl ?_
  refine ro_build1 (vs := [.int .u32 7, .int .u8 0, .int .u8 5, .int .u16 32]) rfl rfl z144 rfl rfl rfl rfl ?_
  refine ro_build1 (vs := [.int .u32 8, .int .u8 0, .int .u8 5, .int .u16 32]) rfl rfl z144 rfl rfl rfl rfl ?_
  refine ro_build1 (vs := [.int .u32 10, .int .u8 0, .int .u8 5, .int .u16 32]) rfl rfl z144 rfl rfl rfl rfl ?_
  refine ro_build1 (vs := [.int .u32 11, .int .u8 0, .int .u8 5, .int .u16 32]) rfl rfl z144 rfl rfl rfl rfl ?_
  refine ro_build1 (vs := [.int .u32 14, .int .u8 0, .int .u8 6, .int .u16 0]) rfl rfl z144 rfl rfl rfl rfl ?_
  refine ro_build1 (vs := [.int .u32 17, .int .u8 0, .int .u8 6, .int .u16 0]) rfl rfl z144 rfl rfl rfl rfl ?_
  refine ro_build1 (vs := [.int .u32 20, .int .u8 0, .int .u8 6, .int .u16 0]) rfl rfl z144 rfl rfl rfl rfl ?_
  refine ro_build1 (vs := [.int .u32 23, .int .u8 0, .int .u8 6, .int .u16 0]) rfl rfl z144 rfl rfl rfl rfl ?_
  refine ro_build1 (vs := [.int .u32 26, .int .u8 0, .int .u8 6, .int .u16 0]) rfl rfl z144 rfl rfl rfl rfl ?_
  refine ro_build1 (vs := [.int .u32 29, .int .u8 0, .int .u8 6, .int .u16 0]) rfl rfl z144 rfl rfl rfl rfl ?_
  refine ro_build1 (vs := [.int .u32 32, .int .u8 0, .int .u8 6, .int .u16 0]) rfl rfl z144 rfl rfl rfl rfl ?_
  refine ro_build1 (vs := [.int .u32 65539, .int .u8 16, .int .u8 6, .int .u16 0]) rfl rfl z144 rfl rfl rfl rfl ?_
  refine ro_build1 (vs := [.int .u32 32771, .int .u8 15, .int .u8 6, .int .u16 0]) rfl rfl z144 rfl rfl rfl rfl ?_
  refine ro_build1 (vs := [.int .u32 16387, .int .u8 14, .int .u8 6, .int .u16 0]) rfl rfl z144 rfl rfl rfl rfl ?_
  refine ro_build1 (vs := [.int .u32 8195, .int .u8 13, .int .u8 6, .int .u16 0]) rfl rfl z144 rfl rfl rfl rfl ?_
  refine ro_build1 (vs := [.int .u32 4099, .int .u8 12, .int .u8 6, .int .u16 0]) rfl rfl z144 rfl rfl rfl rfl ?_
  refine ro_build1 (vs := [.int .u32 2051, .int .u8 11, .int .u8 6, .int .u16 0]) rfl rfl z144 rfl rfl rfl rfl ?_
  refine ro_build1 (vs := [.int .u32 1027, .int .u8 10, .int .u8 6, .int .u16 0]) rfl rfl z144 rfl rfl rfl rfl ?_
  refine ro_buildSliceA (s := 3) (preL2.map fun t => cellL (cellOf t)) rfl rfl z144 rfl (by decide) (fun a ha => ?_) rfl rfl rfl hex fun b hb => ?_
  · obtain ⟨t, _, rfl⟩ := List.mem_map.1 ha
    rfl
  refine go _ ?_
  refine J_ret ?_
  exact ends_retS [0] (post := [(b, _)]) (junk := []) ⟨b, _, rfl, rfl, rfl, rfl, fun p hp j hj => flat_get preL2 p j hp hj⟩ rfl (.refl _)

end Go.Proofs.YtogmacnlpclgkaaDoor
