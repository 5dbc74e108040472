/-
  WALKS 17: XXH64, a buffer taken in.
-/
import Derived.Test.YtogmacnlpclgkaaDoorW16
namespace Go.Proofs.YtogmacnlpclgkaaDoor
open Go Go.Eng
attribute [local irreducible] RO J Trip Quiet
set_option maxRecDepth 4000
variable {G : Mem}

/-- Eight bytes of a view. -/
theorem le64_v {m : Mem} {oa : Option Addr} {n cp : Nat} {x : Nat → Nat} (hv : View (m ++ G) oa n cp x) (hb : ∀ i, x i < 256) (h : 8 ≤ n) : Quiet Tryd.prog G 44 #[.slice oa n cp] m (.int .u64 (le8 x)) := by
  obtain ⟨hle, hc⟩ := hv
  rcases hc with ⟨_, h0, _⟩ | ⟨b, o, B, rfl, hm, hf, hg⟩
  · omega
  · exact le64_q G m b o n cp B x ⟨hm, by have := hf (by omega); omega, fun i hi => hg i (by omega), hb⟩ h hle
theorem le32_v {m : Mem} {oa : Option Addr} {n cp : Nat} {x : Nat → Nat} (hv : View (m ++ G) oa n cp x) (hb : ∀ i, x i < 256) (h : 4 ≤ n) : Quiet Tryd.prog G 38 #[.slice oa n cp] m (.int .u32 (le4 x)) := by
  obtain ⟨hle, hc⟩ := hv
  rcases hc with ⟨_, h0, _⟩ | ⟨b, o, B, rfl, hm, hf, hg⟩
  · omega
  · exact le32_q G m b o n cp B x ⟨hm, by have := hf (by omega); omega, fun i hi => hg i (by omega), hb⟩ h
theorem le8_lt {x : Nat → Nat} (h : ∀ i, x i < 256) : le8 x < q64 := by
  have l0 := le4_lt x h
  have l1 := le4_lt (fun i => x (i + 4)) (fun i => h _)
  rw [q64_eq]; unfold le8; omega

theorem rd_xb (x : Int) (s : RS) : ∀ j, j < 32 → listG (rdL x s) (50 + j) = .int .u8 (s.xb j)
  | 0, _ => rfl | 1, _ => rfl | 2, _ => rfl | 3, _ => rfl | 4, _ => rfl | 5, _ => rfl | 6, _ => rfl | 7, _ => rfl
  | 8, _ => rfl | 9, _ => rfl | 10, _ => rfl | 11, _ => rfl | 12, _ => rfl | 13, _ => rfl | 14, _ => rfl | 15, _ => rfl
  | 16, _ => rfl | 17, _ => rfl | 18, _ => rfl | 19, _ => rfl | 20, _ => rfl | 21, _ => rfl | 22, _ => rfl | 23, _ => rfl
  | 24, _ => rfl | 25, _ => rfl | 26, _ => rfl | 27, _ => rfl | 28, _ => rfl | 29, _ => rfl | 30, _ => rfl | 31, _ => rfl
  | j + 32, h => absurd h (by omega)
theorem rd_xlo (x : Int) (s : RS) (g : Nat → Nat) : ∀ i, i < 50 → listG (rdL x s) i = listG (rdL x { s with xb := g }) i
  | 0, _ => rfl | 1, _ => rfl | 2, _ => rfl | 3, _ => rfl | 4, _ => rfl | 5, _ => rfl | 6, _ => rfl | 7, _ => rfl
  | 8, _ => rfl | 9, _ => rfl | 10, _ => rfl | 11, _ => rfl | 12, _ => rfl | 13, _ => rfl | 14, _ => rfl | 15, _ => rfl
  | 16, _ => rfl | 17, _ => rfl | 18, _ => rfl | 19, _ => rfl | 20, _ => rfl | 21, _ => rfl | 22, _ => rfl | 23, _ => rfl
  | 24, _ => rfl | 25, _ => rfl | 26, _ => rfl | 27, _ => rfl | 28, _ => rfl | 29, _ => rfl | 30, _ => rfl | 31, _ => rfl
  | 32, _ => rfl | 33, _ => rfl | 34, _ => rfl | 35, _ => rfl | 36, _ => rfl | 37, _ => rfl | 38, _ => rfl | 39, _ => rfl
  | 40, _ => rfl | 41, _ => rfl | 42, _ => rfl | 43, _ => rfl | 44, _ => rfl | 45, _ => rfl | 46, _ => rfl | 47, _ => rfl
  | 48, _ => rfl | 49, _ => rfl
  | j + 50, h => absurd h (by omega)
theorem rd_xhi (x : Int) (s : RS) (g : Nat → Nat) (j : Nat) : listG (rdL x s) (j + 82) = listG (rdL x { s with xb := g }) (j + 82) := rfl
theorem rd_xput (x : Int) (s : RS) (c k : Nat) (h : c + k ≤ 32) (src : Nat → Value) (S : Nat → Nat) (hs : ∀ j, j < k → src j = .int .u8 (S j)) :
    (⟨83, blit (listG (rdL x s)) (50 + c) k src, 90, (0, 0)⟩ : Blk).obj = (rdB x (s.wChk s.xl s.xv (blitN s.xb c k S) s.xc)).obj := by
  refine obj_congr fun i _ => ?_
  show _ = listG (rdL x { s with xb := blitN s.xb c k S }) i
  by_cases h1 : i < 50
  · rw [blit_out _ _ _ _ _ (by omega)]; exact rd_xlo x s _ i h1
  · by_cases h2 : i < 82
    · obtain ⟨j, rfl⟩ : ∃ j, i = 50 + j := ⟨i - 50, by omega⟩
      rw [rd_xb x { s with xb := blitN s.xb c k S } j (by omega)]
      by_cases h3 : c ≤ j ∧ j < c + k
      · rw [blit_in _ _ _ _ _ (by omega) (by omega), hs _ (by omega)]
        simp only [blitN, if_pos h3]; rw [show 50 + j - (50 + c) = j - c by omega]
      · rw [blit_out _ _ _ _ _ (by omega), rd_xb x s j (by omega)]
        simp only [blitN, if_neg h3]
    · obtain ⟨j, rfl⟩ : ∃ j, i = j + 82 := ⟨i - 82, by omega⟩
      rw [blit_out _ _ _ _ _ (by omega)]; exact rd_xhi x s _ j
theorem rd_xv (x : Int) (s : RS) (l : Nat) (v v' b : Nat → Nat) (n : Nat) (h : ∀ i, i < 4 → v i = v' i) : (rdB x (s.wChk l v b n)).obj = (rdB x (s.wChk l v' b n)).obj := by
  have h0 := h 0 (by omega); have h1 := h 1 (by omega); have h2 := h 2 (by omega); have h3 := h 3 (by omega)
  unfold rdB rdL
  dsimp only [RS.wChk]
  rw [h0, h1, h2, h3]
theorem xb_view (M : Mem) (rb : Nat) (x : Int) (s : RS) (hm : (rb, rdB x s) ∈ M) (o : Nat) (ho : o ≤ 32) : View M (some ⟨rb, 50 + o, none⟩) (32 - o) (32 - o) (fun i => s.xb (o + i)) :=
  ⟨Nat.le_refl _, .inr ⟨rb, 50 + o, _, rfl, hm, fun _ => by show _ ≤ 83; omega, fun i hi => by rw [Nat.add_assoc]; exact rd_xb x s (o + i) (by omega)⟩⟩

/-- The accumulators behind n stripes of a text. -/
def xini : Nat → Nat := fun i => [6983438078262162902, 14029467366897019727, 0, 7046029288634856825].getD i 0
def xacc (T : Nat → Nat) : Nat → Nat → Nat
  | 0, i => xini i
  | n + 1, i => xrnd (xacc T n i) (le8 fun j => T (32 * n + (8 * i + j)))
theorem xacc_congr {T T' : Nat → Nat} (n : Nat) (h : ∀ i, i < 32 * n → T i = T' i) (i : Nat) (hi : i < 4) : xacc T n i = xacc T' n i := by
  induction n with
  | zero => rfl
  | succ n ih =>
    unfold xacc
    rw [ih (fun i hi => h i (by omega))]
    congr 1
    unfold le8 le4
    simp only [h (32 * n + (8 * i + 0)) (by omega), h (32 * n + (8 * i + 1)) (by omega), h (32 * n + (8 * i + 2)) (by omega), h (32 * n + (8 * i + 3)) (by omega), h (32 * n + (8 * i + (0 + 4))) (by omega), h (32 * n + (8 * i + (1 + 4))) (by omega), h (32 * n + (8 * i + (2 + 4))) (by omega), h (32 * n + (8 * i + (3 + 4))) (by omega)]
/-- The state has taken in the N bytes T. -/
structure XhM (s : RS) (T : Nat → Nat) (N : Nat) : Prop where
  len : s.xl = N % q64
  acc : ∀ i, i < 4 → s.xv i = xacc T (N / 32) i
  cnt : s.xc = N % 32
  buf : ∀ i, i < N % 32 → s.xb i = T (32 * (N / 32) + i)
  byte : ∀ i, s.xb i < 256
theorem XhM.congr {s : RS} {T T' : Nat → Nat} {N : Nat} (h : XhM s T N) (e : ∀ i, i < N → T i = T' i) : XhM s T' N :=
  ⟨h.len, fun i hi => (h.acc i hi).trans (xacc_congr _ (fun j hj => e j (by omega)) i hi), h.cnt, fun i hi => (h.buf i hi).trans (e _ (by omega)), h.byte⟩
theorem xreset_x (s : RS) (T : Nat → Nat) : XhM s.xreset T 0 :=
  ⟨(Nat.zero_mod _).symm, fun _ _ => rfl, rfl, fun i hi => by omega, fun _ => by show 0 < 256; omega⟩
end Go.Proofs.YtogmacnlpclgkaaDoor
