/-
  WALKS 16: XXH64.
-/
import Derived.Test.YtogmacnlpclgkaaDoorW15
namespace Go.Proofs.YtogmacnlpclgkaaDoor
open Go Go.Eng
attribute [local irreducible] RO J Trip Quiet
set_option maxRecDepth 4000
variable {G : Mem}

/-- 2 to the 64th. -/
@[irreducible] def q64 : Nat := 2 ^ 64
theorem q64_eq : q64 = 2 ^ 64 := by unfold q64; rfl
theorem q64_bits : (2 : Nat) ^ IntKind.u64.bits = q64 := q64_eq.symm
theorem q64_pos : 0 < q64 := by rw [q64_eq]; decide
theorem q64_lt (a : Nat) : a % q64 < q64 := Nat.mod_lt _ q64_pos
@[irreducible] def xp1 : Nat := 11400714785074694791
@[irreducible] def xp2 : Nat := 14029467366897019727
@[irreducible] def xp3 : Nat := 1609587929392839161
@[irreducible] def xp4 : Nat := 9650029242287828579
@[irreducible] def xp5 : Nat := 2870177450012600261
theorem xp1_eq : (11400714785074694791 : Int) = ((xp1 : Nat) : Int) := by unfold xp1; decide
theorem xp2_eq : (14029467366897019727 : Int) = ((xp2 : Nat) : Int) := by unfold xp2; decide
theorem xp3_eq : (1609587929392839161 : Int) = ((xp3 : Nat) : Int) := by unfold xp3; decide
theorem xp4_eq : (9650029242287828579 : Int) = ((xp4 : Nat) : Int) := by unfold xp4; decide
theorem xp5_eq : (2870177450012600261 : Int) = ((xp5 : Nat) : Int) := by unfold xp5; decide
def rotl (x k : Nat) : Nat := (x * 2 ^ k % q64) ||| (x / 2 ^ (64 - k))
def xrnd (v n : Nat) : Nat := rotl ((v + n * xp2 % q64) % q64) 31 * xp1 % q64
def xmrg (h v : Nat) : Nat := ((h ^^^ xrnd 0 v) * xp1 % q64 + xp4) % q64
theorem lt64 {a : Nat} (h : a < q64) : a < 2 ^ capB .u64 := by rw [q64_eq] at h; exact h
theorem rotl_lt {x k : Nat} (h : x < q64) : rotl x k < q64 := by
  have h1 := q64_lt (x * 2 ^ k)
  have h2 : x / 2 ^ (64 - k) < q64 := Nat.lt_of_le_of_lt (Nat.div_le_self _ _) h
  rw [q64_eq] at h1 h2 ⊢
  unfold rotl
  rw [q64_eq]
  exact Nat.or_lt_two_pow h1 h2
theorem xrnd_lt (v n : Nat) : xrnd v n < q64 := q64_lt _
theorem xmrg_lt (v n : Nat) : xmrg v n < q64 := q64_lt _

theorem rot_q {m : Mem} {x : Nat} {K : Int} (k : Nat) (hK : K = (k : Int)) (hx : x < q64) (hk : k < 64) : Quiet Tryd.prog G 32 #[.int .u64 x, .int .i64 K] m (.int .u64 (rotl x k)) := by
  subst hK
  refine Quiet_of Tryd.func32 rfl (by show 2 ≤ _; decide) (args := [.int .u64 x, .int .i64 k]) fun c h0 => ?_
  refine go _ ?_
  have e : k % 64 = k := Nat.mod_eq_of_lt hk
  refine ro_shlU (a := x) (b := k % 64) rfl rfl rfl rfl rfl rfl ?_
  refine go _ ?_
  refine ro_orZ rfl rfl rfl rfl (a := x * 2 ^ (k % 64) % 2 ^ IntKind.u64.bits) (b := x / 2 ^ (64 - k % 64)) ?_ ?_ rfl rfl ?_
  · exact Nat.mod_lt _ (Nat.two_pow_pos _)
  · exact lt64 (Nat.lt_of_le_of_lt (Nat.div_le_self _ _) hx)
  refine go _ ?_
  refine J_ret ?_
  refine ends_ret [4] rfl (post := []) (junk := []) (.refl _) ?_
  show Value.int .u64 _ = _
  unfold rotl
  rw [e, q64_bits]

theorem xrnd_q {m : Mem} {rb o : Nat} {V : Int} (v : Nat) {n : Nat} (hV : V = (v : Int)) : Quiet Tryd.prog G 61 #[.pointer (some ⟨rb, o, none⟩), .int .u64 V, .int .u64 n] m (.int .u64 (xrnd v n)) := by
  subst hV
  refine Quiet_of Tryd.func61 rfl (by show 3 ≤ _; decide) (args := [.pointer (some ⟨rb, o, none⟩), .int .u64 v, .int .u64 n]) fun c h0 => ?_
  refine go _ ?_
  refine ro_mulU rfl rfl rfl xp2_eq rfl rfl ?_
  rw [q64_bits]
  refine go _ ?_
  refine ro_addU rfl rfl rfl rfl rfl rfl ?_
  rw [q64_bits]
  refine go _ ?_
  refine ro_callQT (rot_q (K := 31) 31 rfl (q64_lt _) (by decide)) ?_
  refine go _ ?_
  refine ro_mulU rfl rfl rfl xp1_eq rfl rfl ?_
  rw [q64_bits]
  refine go _ ?_
  refine J_ret ?_
  exact ends_ret [6] rfl (post := []) (junk := []) (.refl _) rfl

theorem xmrg_q {m : Mem} {rb o : Nat} {h v : Nat} (hh : h < q64) : Quiet Tryd.prog G 62 #[.pointer (some ⟨rb, o, none⟩), .int .u64 h, .int .u64 v] m (.int .u64 (xmrg h v)) := by
  refine Quiet_of Tryd.func62 rfl (by show 3 ≤ _; decide) (args := [.pointer (some ⟨rb, o, none⟩), .int .u64 h, .int .u64 v]) fun c h0 => ?_
  refine go _ ?_
  refine ro_callQT (xrnd_q (V := 0) 0 rfl) ?_
  refine go _ ?_
  refine ro_xorZ rfl rfl rfl rfl (lt64 hh) (lt64 (xrnd_lt _ _)) rfl ?_
  refine go _ ?_
  refine ro_mulU rfl rfl rfl xp1_eq rfl rfl ?_
  rw [q64_bits]
  refine ro_addU rfl rfl rfl xp4_eq rfl rfl ?_
  rw [q64_bits]
  refine go _ ?_
  refine J_ret ?_
  exact ends_ret [6] rfl (post := []) (junk := []) (.refl _) rfl
end Go.Proofs.YtogmacnlpclgkaaDoor
