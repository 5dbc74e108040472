/-
  WALKS 19: XXH64, digest.
-/
import Derived.Test.YtogmacnlpclgkaaDoorW18
namespace Go.Proofs.YtogmacnlpclgkaaDoor
open Go Go.Eng
attribute [local irreducible] RO J Trip Quiet
set_option maxRecDepth 20000
variable {G : Mem}

def xs8 (h k : Nat) : Nat := (rotl (h ^^^ xrnd 0 k) 27 * xp1 % q64 + xp4) % q64
def xs4 (h k : Nat) : Nat := (rotl (h ^^^ (k * xp1 % q64)) 23 * xp2 % q64 + xp3) % q64
def xs1 (h k : Nat) : Nat := rotl (h ^^^ (k * xp5 % q64)) 11 * xp1 % q64
theorem xs8_lt (h k : Nat) : xs8 h k < q64 := q64_lt _
theorem xs4_lt (h k : Nat) : xs4 h k < q64 := q64_lt _
theorem xs1_lt (h k : Nat) : xs1 h k < q64 := q64_lt _
theorem xor64 {a b : Nat} (ha : a < q64) (hb : b < q64) : a ^^^ b < q64 := by
  rw [q64_eq] at *; exact Nat.xor_lt_two_pow ha hb
/-- Words of eight bytes, bytes taken in. -/
def xt8 (T : Nat → Nat) (h : Nat) : Nat → Nat
  | 0 => h
  | j + 1 => xs8 (xt8 T h j) (le8 fun i => T (8 * j + i))
def xt1 (T : Nat → Nat) (h : Nat) : Nat → Nat
  | 0 => h
  | j + 1 => xs1 (xt1 T h j) (T j)
theorem xt8_lt (T : Nat → Nat) {h : Nat} (hh : h < q64) : ∀ j, xt8 T h j < q64
  | 0 => hh
  | j + 1 => by rw [xt8]; exact xs8_lt _ _
theorem xt1_lt (T : Nat → Nat) {h : Nat} (hh : h < q64) : ∀ j, xt1 T h j < q64
  | 0 => hh
  | j + 1 => by rw [xt1]; exact xs1_lt _ _
theorem xt8_congr {T T' : Nat → Nat} {h : Nat} : ∀ j, (∀ i, i < 8 * j → T i = T' i) → xt8 T h j = xt8 T' h j
  | 0, _ => rfl
  | j + 1, e => by
    rw [xt8, xt8, xt8_congr j (fun i hi => e i (by omega)), le8_congr fun i hi => e (8 * j + i) (by omega)]
theorem xt1_congr {T T' : Nat → Nat} {h : Nat} : ∀ j, (∀ i, i < j → T i = T' i) → xt1 T h j = xt1 T' h j
  | 0, _ => rfl
  | j + 1, e => by
    rw [xt1, xt1, xt1_congr j (fun i hi => e i (by omega)), e j (by omega)]
/-- The rest of less than 32 bytes. -/
def xtail (T : Nat → Nat) (h r : Nat) : Nat :=
  let a := xt8 T h (r / 8)
  let b := if 4 ≤ r % 8 then xs4 a (le4 fun i => T (8 * (r / 8) + i)) else a
  xt1 (fun i => T (4 * (r / 4) + i)) b (r % 4)
theorem xtail_congr {T T' : Nat → Nat} {h r : Nat} (e : ∀ i, i < r → T i = T' i) : xtail T h r = xtail T' h r := by
  unfold xtail
  dsimp only
  rw [xt8_congr (r / 8) fun i hi => e i (by omega)]
  have e4 : 4 ≤ r % 8 → le4 (fun i => T (8 * (r / 8) + i)) = le4 fun i => T' (8 * (r / 8) + i) := fun h => by
    unfold le4
    dsimp only
    rw [e (8 * (r / 8) + 0) (by omega), e (8 * (r / 8) + 1) (by omega), e (8 * (r / 8) + 2) (by omega), e (8 * (r / 8) + 3) (by omega)]
  have : (if 4 ≤ r % 8 then xs4 (xt8 T' h (r / 8)) (le4 fun i => T (8 * (r / 8) + i)) else xt8 T' h (r / 8)) = if 4 ≤ r % 8 then xs4 (xt8 T' h (r / 8)) (le4 fun i => T' (8 * (r / 8) + i)) else xt8 T' h (r / 8) := by
    by_cases h4 : 4 ≤ r % 8
    · rw [if_pos h4, if_pos h4, e4 h4]
    · rw [if_neg h4, if_neg h4]
  rw [this]
  exact xt1_congr _ fun i hi => e _ (by omega)
def xfin (h : Nat) : Nat :=
  let a := (h ^^^ h / 2 ^ 33) * xp2 % q64
  let b := (a ^^^ a / 2 ^ 29) * xp3 % q64
  b ^^^ b / 2 ^ 32
/-- The accumulators brought together. -/
def xsum (v : Nat → Nat) : Nat :=
  xmrg (xmrg (xmrg (xmrg ((((rotl (v 0) 1 + rotl (v 1) 7) % q64 + rotl (v 2) 12) % q64 + rotl (v 3) 18) % q64) (v 0)) (v 1)) (v 2)) (v 3)
def xhead (v : Nat → Nat) (l : Nat) : Nat := ((if l < 32 then (v 2 + xp5) % q64 else xsum v) + l) % q64
/-- XXH64 of the N bytes T. -/
def xdig (T : Nat → Nat) (N : Nat) : Nat := xfin (xtail (fun i => T (32 * (N / 32) + i)) (xhead (xacc T (N / 32)) (N % q64)) (N % 32))

set_option maxHeartbeats 1000000 in
theorem xdig_t (rb : Nat) (x : Int) (s : RS) (T : Nat → Nat) (N : Nat) (hx : XhM s T N) :
    Trip Tryd.prog G 57 #[.pointer (some ⟨rb, 45, none⟩)] [(rb, rdB x s)] (fun v m => v = .int .u64 (xdig T N) ∧ m = [(rb, rdB x s)]) := by
  refine Trip_of Tryd.func57 rfl (by show 1 ≤ _; decide) (args := [.pointer (some ⟨rb, 45, none⟩)]) fun c h0 hex => ?_
  obtain ⟨hl, ha, hc, hb, hby⟩ := hx
  have hxl : s.xl < q64 := by rw [hl]; exact q64_lt _
  have hvl : ∀ i, i < 4 → s.xv i < q64 := fun i hi => by
    rw [ha i hi]
    cases N / 32 with
    | zero => rw [q64_eq]; match i, hi with
      | 0, _ => show 6983438078262162902 < _; decide
      | 1, _ => show 14029467366897019727 < _; decide
      | 2, _ => show 0 < _; decide
      | 3, _ => show 7046029288634856825 < _; decide
    | succ n => rw [xacc_succ]; exact xrnd_lt _ _
  have hxl' : s.xl < 18446744073709551616 := by rw [q64_eq] at hxl; exact hxl
  refine go _ ?_
  refine J_joinE (σ := Nat) [0] (fun h => [(3, .int .u64 h)]) (fun _ => [(rb, rdB x s)]) (fun h => (h + s.xl) % q64 = xhead s.xv s.xl) ?_ ?_
  · refine J_condP rfl (fun hlt => ?_) (fun hge => ?_)
    · try refine J_seq ?_
      refine J_region (qs := qsT) mixed_ok (by kernel_rfl) ?_
      refine ro_batch (by conv => lhs; whnf) ?_
      refine ro_ixA1 (i := 2) rfl rfl rfl rfl rfl (by decide) rfl ?_
      refine ro_batch (by conv => lhs; whnf) ?_
      refine ro_load (v := .int .u64 (s.xv 2)) rfl rfl .here rfl rfl rfl ?_
      refine ro_addU rfl rfl rfl xp5_eq rfl rfl ?_
      rw [q64_bits]
      refine go _ ?_
      refine ⟨_, ?_, joined (.refl _)⟩
      unfold xhead; rw [if_pos (by omega)]
    · refine go _ ?_
      refine ro_callQT (rot_q (K := 1) 1 rfl (hvl 0 (by decide)) (by decide)) ?_
      refine go _ ?_
      refine ro_callQT (rot_q (K := 7) 7 rfl (hvl 1 (by decide)) (by decide)) ?_
      refine go _ ?_
      refine ro_addU rfl rfl rfl rfl rfl rfl ?_
      rw [q64_bits]
      refine go _ ?_
      refine ro_callQT (rot_q (K := 12) 12 rfl (hvl 2 (by decide)) (by decide)) ?_
      refine go _ ?_
      refine ro_addU rfl rfl rfl rfl rfl rfl ?_
      rw [q64_bits]
      refine go _ ?_
      refine ro_callQT (rot_q (K := 18) 18 rfl (hvl 3 (by decide)) (by decide)) ?_
      refine go _ ?_
      refine ro_addU rfl rfl rfl rfl rfl rfl ?_
      rw [q64_bits]
      refine go _ ?_
      refine ro_callQT (xmrg_q (q64_lt _)) ?_
      refine go _ ?_
      refine ro_callQT (xmrg_q (xmrg_lt _ _)) ?_
      refine go _ ?_
      refine ro_callQT (xmrg_q (xmrg_lt _ _)) ?_
      refine go _ ?_
      refine ro_callQT (xmrg_q (xmrg_lt _ _)) ?_
      refine go _ ?_
      refine ⟨_, ?_, joined (.refl _)⟩
      unfold xhead; rw [if_neg (by omega)]; rfl
  · intro hh f hhd
    refine go _ ?_
    refine ro_addU rfl rfl rfl rfl rfl rfl ?_
    rw [q64_bits, hhd]
    refine go _ ?_
    have hxh : xhead s.xv s.xl < q64 := q64_lt _
    generalize hg1 : xhead s.xv s.xl = h1 at hxh ⊢
    have hr : s.xl % 32 = N % 32 := by rw [hl, q64_eq]; omega
    rw [hr]
    generalize hr0 : N % 32 = r at hb ⊢
    have hr32 : r < 32 := by omega
    refine J_loopL (σ := Option Addr × Nat × Nat × Nat) [0] (fun t => [(3, .int .u64 (xt8 s.xb h1 t.2.2.2)), (4, .int .u64 ((r - 8 * t.2.2.2 : Nat) : Int)), (5, .slice t.1 t.2.1 t.2.2.1)]) (fun t => [(rb, rdB x s)])
      (fun t => View ([(rb, rdB x s)] ++ G) t.1 t.2.1 t.2.2.1 (fun i => s.xb (8 * t.2.2.2 + i)) ∧ t.2.1 = 32 - 8 * t.2.2.2 ∧ 8 * t.2.2.2 ≤ r) (fun t => t.2.1) (some ⟨rb, 50, none⟩, 32, 32, 0) (.refl _) ⟨?_, rfl, by show 8 * 0 ≤ r; omega⟩ ?_
    · exact (xb_view _ rb x s List.mem_cons_self 0 (by decide)).congr fun i hi => by rw [Nat.mul_zero]
    rintro ⟨oa1, n1, cp1, j⟩ f ⟨hv1, hn1, hj1⟩
    dsimp only at hv1 hn1 hj1 ⊢
    have hcp := hv1.le
    refine go _ ?_
    refine J_condP rfl (fun (hg : ((r - 8 * j : Nat) : Int) ≥ 8) => ?_) (fun (hg : ¬ ((r - 8 * j : Nat) : Int) ≥ 8) => ?_)
    · refine go _ ?_
      refine ro_callQT (le64_v hv1 (fun _ => hby _) (by omega)) ?_
      refine go _ ?_
      refine ro_callQT (xrnd_q (V := 0) 0 rfl) ?_
      refine go _ ?_
      refine ro_slV 8 n1 hv1 rfl rfl rfl rfl rfl rfl rfl (by omega) hcp rfl ?_
      refine go _ ?_
      refine ro_xorZ rfl rfl rfl rfl (lt64 (xt8_lt _ hxh _)) (lt64 (xrnd_lt _ _)) rfl ?_
      refine go _ ?_
      refine ro_callQT (rot_q (K := 27) 27 rfl (xor64 (xt8_lt _ hxh _) (xrnd_lt _ _)) (by decide)) ?_
      refine ro_mulU rfl rfl rfl xp1_eq rfl rfl ?_
      rw [q64_bits]
      refine ro_addU rfl rfl rfl xp4_eq rfl rfl ?_
      rw [q64_bits]
      have hst : (rotl (xt8 s.xb h1 j ^^^ xrnd 0 (le8 fun i => s.xb (8 * j + i))) 27 * xp1 % q64 + xp4) % q64 = xt8 s.xb h1 (j + 1) := by rw [xt8]; rfl
      rw [hst]
      refine go _ ?_
      refine ⟨(subA oa1 8 cp1, n1 - 8, cp1 - 8, j + 1), (by show n1 - 8 < n1; omega), ⟨(hv1.sub (l := 8) (h := n1) (by omega) (Nat.le_refl _)).congr fun i hi => ?_, (by show n1 - 8 = 32 - 8 * (j + 1); omega), (by show 8 * (j + 1) ≤ r; omega)⟩, joined (.refl _)⟩
      show s.xb (8 * j + (8 + i)) = s.xb (8 * (j + 1) + i)
      congr 1; omega
    · have hj : j = r / 8 := by omega
      refine go _ ?_
      refine J_joinE (σ := Nat × Option Addr × Nat × Nat) [] (fun t => [(3, .int .u64 t.1), (4, .int .u64 ((r % 4 : Nat) : Int)), (5, .slice t.2.1 t.2.2.1 t.2.2.2)]) (fun t => [(rb, rdB x s)])
        (fun t => t.1 = (if 4 ≤ r % 8 then xs4 (xt8 s.xb h1 (r / 8)) (le4 fun i => s.xb (8 * (r / 8) + i)) else xt8 s.xb h1 (r / 8)) ∧ t.1 < q64 ∧ View ([(rb, rdB x s)] ++ G) t.2.1 t.2.2.1 t.2.2.2 (fun i => s.xb (4 * (r / 4) + i)) ∧ t.2.2.1 = 32 - 4 * (r / 4)) ?_ ?_
      · refine J_condP rfl (fun (hg4 : ((r - 8 * j : Nat) : Int) ≥ 4) => ?_) (fun (hg4 : ¬ ((r - 8 * j : Nat) : Int) ≥ 4) => ?_)
        · refine go _ ?_
          refine ro_callQT (le32_v hv1 (fun _ => hby _) (by omega)) ?_
          have hl4 : le4 (fun i => s.xb (8 * j + i)) < 4294967296 := le4_lt _ fun _ => hby _
          refine ro_convM rfl rfl rfl rfl (lim64 (by omega)) rfl ?_
          refine ro_mulU rfl rfl rfl xp1_eq rfl rfl ?_
          rw [q64_bits]
          refine ro_xorZ rfl rfl rfl rfl (lt64 (xt8_lt _ hxh _)) (lt64 (q64_lt _)) rfl ?_
          refine go _ ?_
          refine ro_slV 4 n1 hv1 rfl rfl rfl rfl rfl rfl rfl (by omega) hcp rfl ?_
          refine go _ ?_
          refine ro_callQT (rot_q (K := 23) 23 rfl (xor64 (xt8_lt _ hxh _) (q64_lt _)) (by decide)) ?_
          refine ro_mulU rfl rfl rfl xp2_eq rfl rfl ?_
          rw [q64_bits]
          refine ro_addU rfl rfl rfl xp3_eq rfl rfl ?_
          rw [q64_bits]
          have hst : (rotl (xt8 s.xb h1 j ^^^ (le4 fun i => s.xb (8 * j + i)) * xp1 % q64) 23 * xp2 % q64 + xp3) % q64 = xs4 (xt8 s.xb h1 j) (le4 fun i => s.xb (8 * j + i)) := rfl
          rw [hst]
          refine go _ ?_
          refine ⟨(xs4 (xt8 s.xb h1 j) (le4 fun i => s.xb (8 * j + i)), subA oa1 4 cp1, n1 - 4, cp1 - 4), ⟨?_, xs4_lt _ _, (hv1.sub (l := 4) (h := n1) (by omega) (Nat.le_refl _)).congr fun i hi => ?_, (by show n1 - 4 = 32 - 4 * (r / 4); omega)⟩, joined (.refl _) ⟨rfl, ?_, rfl, trivial⟩⟩
          · show xs4 (xt8 s.xb h1 j) (le4 fun i => s.xb (8 * j + i)) = _
            rw [if_pos (by omega), hj]
          · show s.xb (8 * j + (4 + i)) = s.xb (4 * (r / 4) + i)
            congr 1; omega
          · show Value.int .u64 ((r - 8 * j - 4 : Nat) : Int) = .int .u64 ((r % 4 : Nat) : Int)
            congr 2; omega
        · refine go _ ?_
          refine ⟨(xt8 s.xb h1 j, oa1, n1, cp1), ⟨?_, xt8_lt _ hxh _, hv1.congr fun i hi => ?_, (by show n1 = 32 - 4 * (r / 4); omega)⟩, joined (.refl _) ⟨rfl, ?_, rfl, trivial⟩⟩
          · show xt8 s.xb h1 j = _
            rw [if_neg (by omega), hj]
          · show _ = s.xb (4 * (r / 4) + i)
            congr 1; omega
          · show Value.int .u64 ((r - 8 * j : Nat) : Int) = .int .u64 ((r % 4 : Nat) : Int)
            congr 2; omega
      · rintro ⟨h2, oa2, n2, cp2⟩ f ⟨hh2, hq2, hv2, hn2⟩
        dsimp only at hh2 hq2 hv2 hn2 ⊢
        clear hv1 hn1 hg hj hcp
        refine go _ ?_
        refine J_loopL (σ := Option Addr × Nat × Nat × Nat) [] (fun t => [(3, .int .u64 (xt1 (fun i => s.xb (4 * (r / 4) + i)) h2 t.2.2.2)), (4, .int .u64 ((r % 4 - t.2.2.2 : Nat) : Int)), (5, .slice t.1 t.2.1 t.2.2.1)]) (fun t => [(rb, rdB x s)])
          (fun t => View ([(rb, rdB x s)] ++ G) t.1 t.2.1 t.2.2.1 (fun i => s.xb (4 * (r / 4) + (t.2.2.2 + i))) ∧ t.2.1 = 32 - 4 * (r / 4) - t.2.2.2 ∧ t.2.2.2 ≤ r % 4) (fun t => t.2.1) (oa2, n2, cp2, 0) (.refl _) ⟨hv2.congr fun i hi => by rw [Nat.zero_add], hn2, Nat.zero_le _⟩ ?_
        clear hv2 hn2 oa2 n2 cp2
        rintro ⟨oa1, n1, cp1, j⟩ f ⟨hv1, hn1, hj1⟩
        dsimp only at hv1 hn1 hj1 ⊢
        have hcp := hv1.le
        refine go _ ?_
        refine J_condP rfl (fun (hg : ((r % 4 - j : Nat) : Int) > 0) => ?_) (fun (hg : ¬ ((r % 4 - j : Nat) : Int) > 0) => ?_)
        · obtain ⟨b0, o0, B0, hoa, hm0, hf0, hg0⟩ : ∃ b o B, oa1 = some ⟨b, o, none⟩ ∧ (b, B) ∈ [(rb, rdB x s)] ++ G ∧ (0 < n1 → o + n1 ≤ B.n) ∧ ∀ i, i < n1 → B.g (o + i) = .int .u8 ((s.xb (4 * (r / 4) + (j + i)) : Nat) : Int) := by
            rcases hv1.is with ⟨_, h, _⟩ | h
            · omega
            · exact h
          have hfn := hf0 (by omega)
          subst hoa
          refine go _ ?_
          refine ro_loadA rfl rfl hm0 (show o0 + 0 < B0.n by omega) (hg0 0 (by omega)) rfl ?_
          have hb8 := hby (4 * (r / 4) + (j + 0))
          refine go _ ?_
          refine ro_mulU rfl rfl rfl xp5_eq rfl rfl ?_
          rw [q64_bits]
          refine ro_xorZ rfl rfl rfl rfl (lt64 (xt1_lt _ hq2 _)) (lt64 (q64_lt _)) rfl ?_
          refine go _ ?_
          refine ro_callQT (rot_q (K := 11) 11 rfl (xor64 (xt1_lt _ hq2 _) (q64_lt _)) (by decide)) ?_
          refine ro_mulU rfl rfl rfl xp1_eq rfl rfl ?_
          rw [q64_bits]
          have hst : rotl (xt1 (fun i => s.xb (4 * (r / 4) + i)) h2 j ^^^ s.xb (4 * (r / 4) + (j + 0)) * xp5 % q64) 11 * xp1 % q64 = xt1 (fun i => s.xb (4 * (r / 4) + i)) h2 (j + 1) := by rw [xt1]; rfl
          rw [hst]
          refine go _ ?_
          refine ⟨(some ⟨b0, o0 + 1, none⟩, n1 - 1, cp1 - 1, j + 1), (by show n1 - 1 < n1; omega), ⟨⟨by show n1 - 1 ≤ cp1 - 1; omega, .inr ⟨b0, o0 + 1, B0, rfl, hm0, fun _ => by show o0 + 1 + (n1 - 1) ≤ _; omega, fun i hi => ?_⟩⟩, (by show n1 - 1 = 32 - 4 * (r / 4) - (j + 1); omega), (by show j + 1 ≤ r % 4; omega)⟩, joined (.refl _)⟩
          have hi' : i < n1 - 1 := hi
          have := hg0 (1 + i) (by omega)
          rw [Nat.add_assoc, this]
          show Value.int .u8 _ = Value.int .u8 ((s.xb (4 * (r / 4) + (j + 1 + i)) : Nat) : Int)
          rw [Nat.add_assoc j 1 i]
        · have hj : j = r % 4 := by omega
          have hh3 := xt1_lt (fun i => s.xb (4 * (r / 4) + i)) hq2 j
          have hval : xt1 (fun i => s.xb (4 * (r / 4) + i)) h2 j = xtail s.xb h1 r := by
            unfold xtail; dsimp only; rw [hj, hh2]
          rw [hval] at hh3 ⊢
          generalize hg3 : xtail s.xb h1 r = h3 at hh3 ⊢
          refine go _ ?_
          refine ro_xorZ rfl rfl rfl rfl (lt64 hh3) (lt64 (Nat.lt_of_le_of_lt (Nat.div_le_self _ _) hh3)) rfl ?_
          refine go _ ?_
          refine ro_mulU rfl rfl rfl xp2_eq rfl rfl ?_
          rw [q64_bits]
          generalize hh4 : (h3 ^^^ h3 / 2 ^ 33) * xp2 % q64 = h4
          have hq4 : h4 < q64 := hh4 ▸ q64_lt _
          refine go _ ?_
          refine ro_xorZ rfl rfl rfl rfl (lt64 hq4) (lt64 (Nat.lt_of_le_of_lt (Nat.div_le_self _ _) hq4)) rfl ?_
          refine go _ ?_
          refine ro_mulU rfl rfl rfl xp3_eq rfl rfl ?_
          rw [q64_bits]
          generalize hh5 : (h4 ^^^ h4 / 2 ^ 29) * xp3 % q64 = h5
          have hq5 : h5 < q64 := hh5 ▸ q64_lt _
          refine go _ ?_
          refine ro_xorZ rfl rfl rfl rfl (lt64 hq5) (lt64 (Nat.lt_of_le_of_lt (Nat.div_le_self _ _) hq5)) rfl ?_
          refine go _ ?_
          refine J_ret ?_
          refine ends_retS [2] ⟨?_, rfl⟩
          show Value.int .u64 ((h5 ^^^ h5 / 2 ^ 32 : Nat) : Int) = _
          have e1 : xhead (xacc T (N / 32)) (N % q64) = h1 := by
            rw [← hg1]; unfold xhead xsum
            rw [ha 0 (by decide), ha 1 (by decide), ha 2 (by decide), ha 3 (by decide), hl]
          have e2 : xtail (fun i => T (32 * (N / 32) + i)) h1 (N % 32) = h3 := by
            rw [← hg3, hr0]; exact (xtail_congr hb).symm
          unfold xdig
          rw [e1, e2]
          unfold xfin
          dsimp only
          rw [hh4, hh5]
end Go.Proofs.YtogmacnlpclgkaaDoor
