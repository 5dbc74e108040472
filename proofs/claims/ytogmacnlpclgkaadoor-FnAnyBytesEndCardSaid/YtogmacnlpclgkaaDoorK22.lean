/-
  TEXTS MERGED: C2, C3.
-/
import Derived.Test.YtogmacnlpclgkaaDoorK21
import Derived.Test.YtogmacnlpclgkaaDoorK12
/-! COMPRESSED BLOCKS 2: the reader of bits, going backward. -/
namespace Go.Proofs.YtogmacnlpclgkaaDoor
open Go Go.Eng Go.Pz
attribute [local irreducible] RO J Trip Quiet
set_option maxRecDepth 20000
variable {G : Mem} {d : Nat → Nat}

/-- A reader of bits that goes backward. -/
def rvB (rb : Nat) (da : Option Addr) (n cp off start bits cnt : Nat) : Blk := listB [.pointer (some ⟨rb, 0, none⟩), .slice da n cp, .int .u32 (off : Nat), .int .u32 (start : Nat), .int .u32 (bits : Nat), .int .u32 (cnt : Nat)] 137
theorem rv_2445 (rb : Nat) (da : Option Addr) (n cp o st b k o' b1 b' k' : Nat) : (((((rvB rb da n cp o st b k).st 2 (.int .u32 (o' : Nat))).st 4 (.int .u32 (b1 : Nat))).st 4 (.int .u32 (b' : Nat))).st 5 (.int .u32 (k' : Nat))).obj = (rvB rb da n cp o' st b' k').obj := blk_tab rfl rfl rfl rfl
theorem rv_5 (rb : Nat) (da : Option Addr) (n cp o st b k k' : Nat) : ((rvB rb da n cp o st b k).st 5 (.int .u32 (k' : Nat))).obj = (rvB rb da n cp o st b k').obj := blk_tab rfl rfl rfl rfl
/-- What the bits at hand are: those below the place a, k of them (the upper ones may be lost). -/
structure RvOk (d : Nat → Nat) (a k B : Nat) : Prop where
  le : k ≤ a
  al : (a - k) % 8 = 0
  lt : B < 2 ^ 32
  eq : B % 2 ^ min k 32 = bitsAt d (a - k) (min k 32)
  k40 : k ≤ 40

theorem RvOk.push {a k B : Nat} (h : RvOk d a k B) (hd : ∀ i, d i < 256) (h8 : 8 ≤ a - k) (hk : k ≤ 32) : RvOk d a (k + 8) (B * 2 ^ 8 % 2 ^ 32 + d ((a - k) / 8 - 1)) where
  le := by omega
  al := by have := h.al; omega
  lt := by
    have := hd ((a - k) / 8 - 1)
    omega
  k40 := by omega
  eq := by
    have hal := h.al
    have hb := hd ((a - k) / 8 - 1)
    obtain ⟨w, hw⟩ : ∃ w, min (k + 8) 32 = w + 8 := ⟨min (k + 8) 32 - 8, by omega⟩
    rw [hw, Nat.add_comm w 8, show a - (k + 8) = 8 * ((a - k) / 8 - 1) by omega, bitsAt_before d hd, show 8 * ((a - k) / 8 - 1 + 1) = a - k by omega]
    have h1 : B % 2 ^ w = bitsAt d (a - k) w := by
      have h2 : w ≤ min k 32 := by omega
      rw [← bitsAt_mod d (a - k) h2, ← h.eq, Nat.mod_mod_of_dvd _ (Nat.pow_dvd_pow 2 h2)]
    have h3 : (8 : Nat) + w ≤ 32 := by omega
    have h4 : (B * 2 ^ 8 % 2 ^ 32 + d ((a - k) / 8 - 1)) % 2 ^ (8 + w) = (B * 2 ^ 8 + d ((a - k) / 8 - 1)) % 2 ^ (8 + w) := by
      rw [Nat.add_mod, Nat.mod_mod_of_dvd _ (Nat.pow_dvd_pow 2 h3), ← Nat.add_mod]
    rw [h4, ← h1]
    generalize d ((a - k) / 8 - 1) = y at hb
    rw [show 2 ^ (8 + w) = 256 * 2 ^ w by rw [Nat.pow_add]]
    have h5 := Nat.mod_mul (x := B * 2 ^ 8 + y) (a := 256) (b := 2 ^ w)
    rw [h5]
    have h6 : (B * 2 ^ 8 + y) % 256 = y := by omega
    have h7 : (B * 2 ^ 8 + y) / 256 = B := by omega
    rw [h6, h7]

theorem or_low (B c : Nat) (hc : c < 256) : (B * 2 ^ 8 % 2 ^ 32) ||| c = B * 2 ^ 8 % 2 ^ 32 + c := by
  have h : B * 2 ^ 8 % 2 ^ 32 = B % 2 ^ 24 * 2 ^ 8 := by omega
  rw [h, Nat.or_comm, or_add' (j := 8) hc, Nat.add_comm]

theorem fetch_t (bb rb : Nat) (da : Option Addr) (n cp : Nat) (hd : ∀ i, d i < 256) (hv : View G da n cp d) (hn : n ≤ 2 ^ 20) (a k B start b : Nat) (hR : RvOk d a k B) (ha : a ≤ 8 * n + 7) (hon : (a - k) / 8 ≤ n) (hst : start < 2 ^ 32) (hb : b ≤ 32) :
    Trip Tryd.prog G 76 #[.pointer (some ⟨bb, 0, none⟩), .int .u8 (b : Nat)] [(bb, rvB rb da n cp ((a - k) / 8) start B k)] (fun v m =>
      ((b ≤ k ∨ 8 * start + b ≤ a) ∧ v = .bool true ∧ ∃ k' B', b ≤ k' ∧ (k' = k ∨ k' ≤ b + 7) ∧ RvOk d a k' B' ∧ (a - k') / 8 ≤ n ∧ m = [(bb, rvB rb da n cp ((a - k') / 8) start B' k')]) ∨
      (¬ (b ≤ k ∨ 8 * start + b ≤ a) ∧ v = .bool false ∧ ∃ off B' k', off < 2 ^ 32 ∧ m = [(bb, rvB rb da n cp off start B' k')])) := by
  refine Trip_of Tryd.func76 rfl (by show 2 ≤ _; decide) (args := [.pointer (some ⟨bb, 0, none⟩), .int .u8 (b : Nat)]) fun c h0 hex => ?_
  refine go _ ?_
  refine J_loopL (σ := Nat × Nat) [] (fun _ => [(0, .pointer (some ⟨bb, 0, none⟩)), (1, .int .u8 (b : Nat))]) (fun t => [(bb, rvB rb da n cp ((a - t.1) / 8) start t.2 t.1)])
    (fun t => RvOk d a t.1 t.2 ∧ (t.1 = k ∨ (k < b ∧ start ≤ (a - t.1) / 8)) ∧ (a - t.1) / 8 ≤ n ∧ (t.1 = k ∨ t.1 ≤ b + 7)) (fun t => 64 - t.1) (k, B) (.refl _) ⟨hR, .inl rfl, hon, .inl rfl⟩ ?_
  rintro ⟨k1, B1⟩ f ⟨h1, h2, h3, h4⟩
  dsimp only at h1 h2 h3 h4 ⊢
  have hal := h1.al
  have hle := h1.le
  have hlt := h1.lt
  have h40 := h1.k40
  refine go _ ?_
  refine J_condP rfl (fun hlt => ?_) (fun hge => ?_)
  · refine go _ ?_
    refine J_condP rfl (fun hle2 => ?_) (fun hgt => ?_)
    · refine go _ ?_
      refine J_ret ?_
      exact ends_retS [4] (.inr ⟨by omega, rfl, (a - k1) / 8, _, _, by omega, rfl⟩)
    · obtain ⟨b0, o0, rfl⟩ := hv.some (by omega)
      have hb0 := hd ((a - k1) / 8 - 1)
      refine go _ ?_
      refine ro_shlU rfl rfl rfl rfl rfl rfl ?_
      rw [show (2 : Nat) ^ IntKind.u32.bits = 2 ^ 32 from rfl]
      refine go _ ?_
      refine ro_orZ rfl rfl rfl rfl (by show _ < 2 ^ 32; omega) (by show _ < 2 ^ 32; omega) (or_low B1 _ hb0) rfl ?_
      refine go _ ?_
      refine ⟨(k1 + 8, B1 * 2 ^ 8 % 2 ^ 32 + d ((a - k1) / 8 - 1)), by dsimp only; omega, ⟨h1.push hd (by omega) (by omega), by dsimp only; omega, by dsimp only; omega, .inr (by dsimp only; omega)⟩, ⟨rfl, rfl, trivial⟩, .cons ((rv_2445 rb _ n cp _ _ _ _ _ _ _ _).trans ?_) .nil⟩
      dsimp only
      rw [show (a - k1) / 8 - 1 = (a - (k1 + 8)) / 8 by omega]
  · refine go _ ?_
    refine J_ret ?_
    exact ends_retS [4] (.inl ⟨by omega, rfl, k1, B1, by omega, h4, h1, h3, rfl⟩)

/-- A value of b bits below the place a (of more than 25 bits some may be lost). -/
def rvV (d : Nat → Nat) (a b : Nat) : Nat := bitsAt d (a - b) (min b (32 - (a - b) % 8))
theorem rvV_lt (d : Nat → Nat) (a b : Nat) : rvV d a b < 2 ^ b := Nat.lt_of_lt_of_le (bitsAt_lt d _ _) (Nat.pow_le_pow_right (by omega) (by omega))
theorem rvV_of {a k b B : Nat} (h : RvOk d a k B) (hb : b ≤ k) (hk : k ≤ b + 7) : B / 2 ^ (k - b) % 2 ^ b = rvV d a b := by
  have hal := h.al
  have hle := h.le
  have hc : (a - b) % 8 = k - b := by omega
  unfold rvV
  rw [hc]
  have he := h.eq
  by_cases h32 : k ≤ 32
  · rw [Nat.min_eq_left h32] at he
    rw [Nat.min_eq_left (by omega : b ≤ 32 - (k - b))]
    have h1 : B / 2 ^ (k - b) % 2 ^ b = B % 2 ^ k / 2 ^ (k - b) := by
      have : 2 ^ k = 2 ^ (k - b) * 2 ^ b := by rw [← Nat.pow_add]; congr 1; omega
      rw [this, Nat.mod_mul_right_div_self]
    rw [h1, he, bitsAt_div d _ (by omega)]
    rw [show a - k + (k - b) = a - b by omega, show k - (k - b) = b by omega]
  · have e32 : min k 32 = 32 := by omega
    rw [e32, Nat.mod_eq_of_lt h.lt] at he
    rw [Nat.min_eq_right (by omega : 32 - (k - b) ≤ b), he, bitsAt_div d _ (by omega : k - b ≤ 32), show a - k + (k - b) = a - b by omega]
    exact Nat.mod_eq_of_lt (Nat.lt_of_lt_of_le (bitsAt_lt d _ _) (Nat.pow_le_pow_right (by omega) (by omega)))
/-- Behind it. -/
theorem RvOk.less {a k b B : Nat} (h : RvOk d a k B) (hb : b ≤ k) : RvOk d (a - b) (k - b) B where
  le := by have := h.le; omega
  al := by have := h.al; have := h.le; rw [show a - b - (k - b) = a - k by omega]; exact h.al
  lt := h.lt
  eq := by
    have hle := h.le
    have h2 : min (k - b) 32 ≤ min k 32 := by omega
    rw [show a - b - (k - b) = a - k by omega, ← bitsAt_mod d (a - k) h2, ← h.eq, Nat.mod_mod_of_dvd _ (Nat.pow_dvd_pow 2 h2)]
  k40 := by have := h.k40; omega
end Go.Proofs.YtogmacnlpclgkaaDoor

/-! COMPRESSED BLOCKS 3: how many bits a number has; the backward reader's values and its begin. -/
namespace Go.Proofs.YtogmacnlpclgkaaDoor
open Go Go.Eng Go.Pz
attribute [local irreducible] RO J Trip Quiet
set_option maxRecDepth 20000
variable {G : Mem} {d : Nat → Nat}

section
variable {P : Program} [ty : TyC P] {qs : List FuncId} {c : World} {n : Nat} {h0 : Base} {ops : Array Oper} {Q : Fr → Mem → Prop} {rest : List Oper} {f : Fr} {m : Mem}
variable {dd : Option Tmp} {T T' tt : TypeId} {pos : String} {aft : Array Edge}
/-- A byte of a string. -/
theorem ro_indexS {x y : Operand} {s : ByteArray} {k : IntKind} {I : Int} {i : Nat} {b : UInt8} (hx : ev f x = .string s) (hy : ev f y = .int k I) (hI : I = (i : Int)) (hT : TyC.tk P T = .string) (hv : s[i]? = some b) (hd : dstOk n dd = true)
    (h : RO P G qs c n h0 ops Q rest (updo f dd (.int .u8 (b.toNat : Nat))) m) : RO P G qs c n h0 ops Q (⟨dd, .index T x y, tt, pos, aft, none⟩ :: rest) f m := by
  subst hI
  refine ro_pure rfl rfl hd (fun w => ?_) h
  simp [execOp, hx, hy, Instr.index, asIntOf, run_underlying (u_string hT), hv]
end

/-- How many bits a number has. -/
def blen (x : Nat) : Nat := if x = 0 then 0 else Nat.log2 x + 1
def lenL : List Nat := (List.range 256).map blen
theorem blen_le {x k : Nat} (h : x < 2 ^ k) : blen x ≤ k := by
  unfold blen
  split
  · omega
  · rename_i h0
    have := (Nat.log2_lt (n := x) (k := k) h0).2 h
    omega
theorem tab8g {s : ByteArray} (h : ((List.range 256).all fun x => s[x]? == some (UInt8.ofNat (blen x))) = true) {x : Nat} (hx : x < 256) : s[x]? = some (UInt8.ofNat (blen x)) := by
  have := List.all_eq_true.1 h x (List.mem_range.2 hx)
  exact eq_of_beq this
theorem blen8 {x : Nat} (hx : x < 256) : (UInt8.ofNat (blen x)).toNat = blen x := by
  have := blen_le (k := 8) hx
  show blen x % 256 = blen x
  omega
theorem blen_shift {x j : Nat} (h : 2 ^ j ≤ x) : blen x = j + blen (x / 2 ^ j) := by
  have h0 : x ≠ 0 := by have := Nat.one_le_two_pow (n := j); omega
  have h1 : x / 2 ^ j ≠ 0 := by
    have := Nat.div_pos h (Nat.two_pow_pos j)
    omega
  unfold blen
  rw [if_neg h0, if_neg h1]
  have h2 := Nat.log2_self_le h1
  have h3 := Nat.lt_log2_self (n := x / 2 ^ j)
  have h4 : 2 ^ (j + Nat.log2 (x / 2 ^ j)) ≤ x := by
    rw [Nat.pow_add]
    exact Nat.le_trans (Nat.mul_le_mul_left _ h2) (Nat.mul_div_le _ _)
  have h5 : x < 2 ^ (j + Nat.log2 (x / 2 ^ j) + 1) := by
    rw [Nat.add_assoc, Nat.pow_add]
    have := Nat.lt_mul_of_div_lt h3 (Nat.two_pow_pos j)
    rwa [Nat.mul_comm] at this
  have h6 : Nat.log2 x < j + Nat.log2 (x / 2 ^ j) + 1 := (Nat.log2_lt h0).2 h5
  have h7 : j + Nat.log2 (x / 2 ^ j) ≤ Nat.log2 x := (Nat.le_log2 h0).2 h4
  omega

theorem len8_q {m : Mem} {x : Nat} (hx : x < 256) : Quiet Tryd.prog G 93 #[.int .u8 (x : Nat)] m (.int .i64 (blen x : Nat)) := by
  refine Quiet_of Tryd.func93 rfl (by show 1 ≤ _; decide) (args := [.int .u8 (x : Nat)]) fun c h0 => ?_
  have := blen_le (k := 8) hx
  refine go _ ?_
  refine ro_indexS rfl rfl rfl rfl (tab8g (by kernel_rfl) hx) rfl ?_
  rw [blen8 hx]
  refine go _ ?_
  refine J_ret ?_
  exact ends_ret [2] rfl (post := []) (junk := []) (.refl _) rfl
theorem lz8_q {m : Mem} {x : Nat} (hx : x < 256) : Quiet Tryd.prog G 75 #[.int .u8 (x : Nat)] m (.int .i64 ((8 - blen x : Nat) : Int)) := by
  refine Quiet_of Tryd.func75 rfl (by show 1 ≤ _; decide) (args := [.int .u8 (x : Nat)]) fun c h0 => ?_
  have := blen_le (k := 8) hx
  refine go _ ?_
  refine ro_callQT (len8_q hx) ?_
  refine go _ ?_
  refine J_ret ?_
  exact ends_ret [2] rfl (post := []) (junk := []) (.refl _) rfl

theorem len16_q {m : Mem} {x : Nat} (hx : x < 65536) : Quiet Tryd.prog G 96 #[.int .u16 (x : Nat)] m (.int .i64 (blen x : Nat)) := by
  refine Quiet_of Tryd.func96 rfl (by show 1 ≤ _; decide) (args := [.int .u16 (x : Nat)]) fun c h0 => ?_
  refine go _ ?_
  refine J_joinE (σ := Nat × Nat) [] (fun t => [(0, .int .u16 (t.1 : Nat)), (2, .int .i64 (t.2 : Nat))]) (fun _ => []) (fun t => t.1 < 256 ∧ t.2 ≤ 8 ∧ blen x = t.2 + blen t.1) ?_ ?_
  · refine J_condP rfl (fun hge => ?_) (fun hlt => ?_)
    · refine go _ ?_
      exact ⟨(x / 2 ^ 8, 8), ⟨by dsimp only; omega, by dsimp only; omega, blen_shift (j := 8) (by omega)⟩, ⟨rfl, rfl, trivial⟩, .refl _⟩
    · refine go _ ?_
      exact ⟨(x, 0), ⟨by dsimp only; omega, by dsimp only; omega, (Nat.zero_add _).symm⟩, ⟨rfl, rfl, trivial⟩, .refl _⟩
  rintro ⟨y, n⟩ f ⟨h1, h2, h3⟩
  dsimp only at h1 h2 h3 ⊢
  rw [h3]
  have := blen_le (k := 8) h1
  refine go _ ?_
  refine ro_indexS rfl rfl rfl rfl (tab8g (by kernel_rfl) h1) rfl ?_
  rw [blen8 h1]
  refine go _ ?_
  refine J_ret ?_
  exact ends_ret [2] rfl (post := []) (junk := []) (.refl _) rfl
theorem lz16_q {m : Mem} {x : Nat} (hx : x < 65536) : Quiet Tryd.prog G 95 #[.int .u16 (x : Nat)] m (.int .i64 ((16 - blen x : Nat) : Int)) := by
  refine Quiet_of Tryd.func95 rfl (by show 1 ≤ _; decide) (args := [.int .u16 (x : Nat)]) fun c h0 => ?_
  have := blen_le (k := 16) hx
  refine go _ ?_
  refine ro_callQT (len16_q hx) ?_
  refine go _ ?_
  refine J_ret ?_
  exact ends_ret [2] rfl (post := []) (junk := []) (.refl _) rfl
theorem len32_q {m : Mem} {x : Nat} (hx : x < 4294967296) : Quiet Tryd.prog G 94 #[.int .u32 (x : Nat)] m (.int .i64 (blen x : Nat)) := by
  refine Quiet_of Tryd.func94 rfl (by show 1 ≤ _; decide) (args := [.int .u32 (x : Nat)]) fun c h0 => ?_
  refine go _ ?_
  refine J_joinE (σ := Nat × Nat) [] (fun t => [(0, .int .u32 (t.1 : Nat)), (2, .int .i64 (t.2 : Nat))]) (fun _ => []) (fun t => t.1 < 65536 ∧ t.2 ≤ 16 ∧ blen x = t.2 + blen t.1) ?_ ?_
  · refine J_condP rfl (fun hge => ?_) (fun hlt => ?_)
    · refine go _ ?_
      exact ⟨(x / 2 ^ 16, 16), ⟨by dsimp only; omega, by dsimp only; omega, blen_shift (j := 16) (by omega)⟩, ⟨rfl, rfl, trivial⟩, .refl _⟩
    · refine go _ ?_
      exact ⟨(x, 0), ⟨by dsimp only; omega, by dsimp only; omega, (Nat.zero_add _).symm⟩, ⟨rfl, rfl, trivial⟩, .refl _⟩
  rintro ⟨z, n0⟩ f ⟨g1, g2, g3⟩
  dsimp only at g1 g2 g3 ⊢
  refine go _ ?_
  refine J_joinE (σ := Nat × Nat) [] (fun t => [(0, .int .u32 (t.1 : Nat)), (2, .int .i64 (t.2 : Nat))]) (fun _ => []) (fun t => t.1 < 256 ∧ t.2 ≤ 24 ∧ blen x = t.2 + blen t.1) ?_ ?_
  · refine J_condP rfl (fun hge => ?_) (fun hlt => ?_)
    · refine go _ ?_
      exact ⟨(z / 2 ^ 8, n0 + 8), ⟨by dsimp only; omega, by dsimp only; omega, by rw [g3, blen_shift (x := z) (j := 8) (by omega), Nat.add_assoc]⟩, ⟨rfl, rfl, trivial⟩, .refl _⟩
    · refine go _ ?_
      exact ⟨(z, n0), ⟨by dsimp only; omega, by dsimp only; omega, g3⟩, ⟨rfl, rfl, trivial⟩, .refl _⟩
  rintro ⟨y, n⟩ f ⟨h1, h2, h3⟩
  dsimp only at h1 h2 h3 ⊢
  rw [h3]
  have := blen_le (k := 8) h1
  refine go _ ?_
  refine ro_indexS rfl rfl rfl rfl (tab8g (by kernel_rfl) h1) rfl ?_
  rw [blen8 h1]
  refine go _ ?_
  refine J_ret ?_
  exact ends_ret [2] rfl (post := []) (junk := []) (.refl _) rfl
theorem lz32_q {m : Mem} {x : Nat} (hx : x < 4294967296) : Quiet Tryd.prog G 79 #[.int .u32 (x : Nat)] m (.int .i64 ((32 - blen x : Nat) : Int)) := by
  refine Quiet_of Tryd.func79 rfl (by show 1 ≤ _; decide) (args := [.int .u32 (x : Nat)]) fun c h0 => ?_
  have := blen_le (k := 32) hx
  refine go _ ?_
  refine ro_callQT (len32_q hx) ?_
  refine go _ ?_
  refine J_ret ?_
  exact ends_ret [2] rfl (post := []) (junk := []) (.refl _) rfl

/-! The backward reader's values, errors, begin -/
theorem rvErr_t (S : Sent G) (bb rb : Nat) (x : Int) (s : RS) (da : Option Addr) (n cp off start bits cnt : Nat) (hoff : off < 2 ^ 32) (str : ByteArray) :
    Trip Tryd.prog G 68 #[.pointer (some ⟨bb, 0, none⟩), .string str] [(bb, rvB rb da n cp off start bits cnt), (rb, rdB x s)] (fun v m => ErrV S .z v ∧ m = [(bb, rvB rb da n cp off start bits cnt), (rb, rdB x s)]) := by
  refine Trip_of Tryd.func68 rfl (by show 2 ≤ _; decide) (args := [.pointer (some ⟨bb, 0, none⟩), .string str]) fun c h0 hex => ?_
  refine go _ ?_
  refine ro_callT (merr_t S rb x s _ _) ?_
  rintro v m ⟨⟨b', rfl⟩, rfl⟩
  refine go _ ?_
  refine J_ret ?_
  exact ends_retS [4] (post := [(bb, _), (rb, rdB x s)]) (junk := []) ⟨⟨b', rfl⟩, rfl⟩ rfl (MEqv.of_perm (List.Perm.swap _ _ _))

/-- A backward reader at the place a. -/
def rvS (rb : Nat) (da : Option Addr) (n cp start a B : Nat) : Blk := rvB rb da n cp (a / 8) start B (a % 8)
/-- Are there b bits below the place a? (Those of the byte in which it stands are always given.) -/
def rvC (start a b : Nat) : Prop := b ≤ a % 8 ∨ 8 * start + b ≤ a
instance (start a b : Nat) : Decidable (rvC start a b) := by unfold rvC; infer_instance
theorem rval_t (S : Sent G) (bb rb : Nat) (x : Int) (s : RS) (da : Option Addr) (n cp : Nat) (hd : ∀ i, d i < 256) (hv : View G da n cp d) (hn : n ≤ 2 ^ 20) (a B start b : Nat) (hR : RvOk d a (a % 8) B) (ha : a / 8 ≤ n) (hst : start < 2 ^ 32) (hb : b ≤ 31) :
    Trip Tryd.prog G 67 #[.pointer (some ⟨bb, 0, none⟩), .int .u8 (b : Nat)] [(bb, rvS rb da n cp start a B), (rb, rdB x s)] (fun v m =>
      (rvC start a b ∧ v = .tuple #[.int .u32 (rvV d a b : Nat), .nilIface] ∧ b ≤ a ∧ ∃ B', RvOk d (a - b) ((a - b) % 8) B' ∧ (a - b) / 8 ≤ n ∧ m = [(bb, rvS rb da n cp start (a - b) B'), (rb, rdB x s)]) ∨
      (¬ rvC start a b ∧ (∃ e, v = .tuple #[.int .u32 0, e] ∧ ErrV S .z e) ∧ ∃ off B' k', off < 2 ^ 32 ∧ m = [(bb, rvB rb da n cp off start B' k'), (rb, rdB x s)])) := by
  refine Trip_of Tryd.func67 rfl (by show 2 ≤ _; decide) (args := [.pointer (some ⟨bb, 0, none⟩), .int .u8 (b : Nat)]) fun c h0 hex => ?_
  refine go _ ?_
  have e8 : (a - a % 8) / 8 = a / 8 := by omega
  have ht := fetch_t (G := G) bb rb da n cp hd hv hn a (a % 8) B start b hR (by omega) (by omega) hst (by omega)
  rw [e8] at ht
  refine ro_callT ht ?_
  rintro v m (⟨h1, rfl, k', B', h2, h3, h4, h6, rfl⟩ | ⟨h1, rfl, off, B', k', h2, rfl⟩)
  · have hal := h4.al
    have hle := h4.le
    have h2b : 2 ^ b ≤ 2 ^ 31 := Nat.pow_le_pow_right (by omega) hb
    have h1b : 1 ≤ 2 ^ b := Nat.one_le_two_pow
    have hlt := h4.lt
    have hkb : k' ≤ b + 7 := by omega
    have hval := rvV_of h4 h2 hkb
    have hdv : B' / 2 ^ (k' - b) ≤ B' := Nat.div_le_self _ _
    have hkk : k' - b = (a - b) % 8 := by omega
    refine go _ ?_
    refine J_ret ?_
    refine ends_retS [4, 5] (post := [(bb, rvS rb da n cp start (a - b) B'), (rb, rdB x s)]) (junk := []) (.inl ⟨h1, ?_, by omega, B', by rw [← hkk]; exact h4.less h2, by omega, rfl⟩) rfl (.cons ?_ (.refl _))
    · show Value.tuple #[.int .u32 ((B' / 2 ^ (k' - b) &&& 1 * 2 ^ b - 1 : Nat) : Int), .nilIface] = .tuple #[.int .u32 ((rvV d a b : Nat) : Int), .nilIface]
      rw [Nat.one_mul, Nat.and_two_pow_sub_one_eq_mod, hval]
    · refine (rv_5 rb da n cp _ _ _ _ _).trans ?_
      unfold rvS
      rw [hkk, show (a - k') / 8 = (a - b) / 8 by omega]
  · refine go _ ?_
    refine ro_callT (meof_t S rb x s _) ?_
    rintro v m ⟨⟨b', rfl⟩, rfl⟩
    refine go _ ?_
    refine J_ret ?_
    exact ends_retS [4, 5] (post := [(bb, _), (rb, rdB x s)]) (junk := []) (.inr ⟨h1, ⟨_, rfl, b', rfl⟩, off, B', k', h2, rfl⟩) rfl (MEqv.of_perm (List.Perm.swap _ _ _))
theorem mkrv_t (S : Sent G) (rb : Nat) (x : Int) (s : RS) (da : Option Addr) (n cp : Nat) (hd : ∀ i, d i < 256) (hv : View G da n cp d) (hn : n ≤ 2 ^ 20) (off start : Nat) (ho : off < n) (hst : start < 2 ^ 32) :
    Trip Tryd.prog G 66 #[.pointer (some ⟨rb, 0, none⟩), .slice da n cp, .int .i64 (off : Nat), .int .i64 (start : Nat)] [(rb, rdB x s)] (fun v m => m = [(rb, rdB x s)] ∧
      if d off = 0 then ∃ e, v = .tuple #[.agg #[.pointer none, .slice none 0 0, .int .u32 0, .int .u32 0, .int .u32 0, .int .u32 0], e] ∧ ErrV S .z e
      else v = .tuple #[.agg #[.pointer (some ⟨rb, 0, none⟩), .slice da n cp, .int .u32 (off : Nat), .int .u32 (start : Nat), .int .u32 (d off : Nat), .int .u32 (Nat.log2 (d off) : Nat)], .nilIface]) := by
  refine Trip_of Tryd.func66 rfl (by show 4 ≤ _; decide) (args := [.pointer (some ⟨rb, 0, none⟩), .slice da n cp, .int .i64 (off : Nat), .int .i64 (start : Nat)]) fun c h0 hex => ?_
  obtain ⟨b0, o0, rfl⟩ := hv.some (by omega)
  have hb0 := hd off
  refine go _ ?_
  refine ro_alloc z137 rfl hex fun cb hcb => ?_
  refine go _ ?_
  refine J_condP rfl (fun hz => ?_) (fun hnz => ?_)
  · have hz' : d off = 0 := by omega
    refine go _ ?_
    refine ro_build1 (vs := [.pointer none, .slice none 0 0, .int .u32 0, .int .u32 0, .int .u32 0, .int .u32 0]) rfl rfl z137 rfl rfl rfl rfl ?_
    refine go _ ?_
    refine ro_callT (merr_t S rb x s _ _) ?_
    rintro v m ⟨⟨b', rfl⟩, rfl⟩
    refine go _ ?_
    refine ro_storeAgg (s := 5) (vs := [.pointer none, .slice none 0 0, .int .u32 0, .int .u32 0, .int .u32 0, .int .u32 0]) rfl rfl rfl rfl (fun v hv => by simp only [List.mem_cons, List.not_mem_nil, or_false] at hv; rcases hv with rfl | rfl | rfl | rfl | rfl | rfl <;> rfl) (.there .here) (Nat.le_refl 6) rfl hex ?_
    refine go _ ?_
    refine J_ret ?_
    exact ends_retC [.cell 8 137, .tmp 9] [.agg #[.pointer none, .slice none 0 0, .int .u32 0, .int .u32 0, .int .u32 0, .int .u32 0], .iface 108 (.pointer (some ⟨b', 0, none⟩))] ⟨⟨cb, 0, 5, _, rfl, rfl, rfl, List.mem_cons_of_mem _ List.mem_cons_self, Nat.le_refl 6, rfl⟩, rfl, trivial⟩ (post := [(rb, rdB x s)]) (junk := [(cb, _)]) ⟨rfl, by rw [if_pos hz']; exact ⟨_, rfl, b', rfl⟩⟩ rfl (.refl _)
  · have hnz' : d off ≠ 0 := by omega
    have hbl : blen (d off) = Nat.log2 (d off) + 1 := if_neg hnz'
    have hbl8 := blen_le (k := 8) hb0
    refine go _ ?_
    refine ro_callQT (lz8_q hb0) ?_
    rw [show 8 - blen (d off) = 7 - Nat.log2 (d off) by omega]
    refine go _ ?_
    rw [show 7 - (7 - Nat.log2 (d off)) = Nat.log2 (d off) by omega]
    refine ro_build1 (vs := [.pointer (some ⟨rb, 0, none⟩), .slice (some ⟨b0, o0, none⟩) n cp, .int .u32 (off : Nat), .int .u32 (start : Nat), .int .u32 (d off : Nat), .int .u32 (Nat.log2 (d off) : Nat)]) rfl rfl z137 rfl rfl rfl rfl ?_
    refine go _ ?_
    refine ro_alloc z137 rfl hex fun eb heb => ?_
    refine go _ ?_
    refine ro_storeAgg (s := 5) (vs := [.pointer (some ⟨rb, 0, none⟩), .slice (some ⟨b0, o0, none⟩) n cp, .int .u32 (off : Nat), .int .u32 (start : Nat), .int .u32 (d off : Nat), .int .u32 (Nat.log2 (d off) : Nat)]) rfl rfl rfl rfl (fun v hv => by simp only [List.mem_cons, List.not_mem_nil, or_false] at hv; rcases hv with rfl | rfl | rfl | rfl | rfl | rfl <;> rfl) .here (Nat.le_refl 6) rfl hex ?_
    refine go _ ?_
    refine ro_loadAgg (s := 5) rfl rfl rfl .here (Nat.le_refl 6) rfl ?_
    refine go _ ?_
    refine ro_storeAgg (s := 5) (vs := [.pointer (some ⟨rb, 0, none⟩), .slice (some ⟨b0, o0, none⟩) n cp, .int .u32 (off : Nat), .int .u32 (start : Nat), .int .u32 (d off : Nat), .int .u32 (Nat.log2 (d off) : Nat)]) rfl rfl rfl rfl (fun v hv => by simp only [List.mem_cons, List.not_mem_nil, or_false] at hv; rcases hv with rfl | rfl | rfl | rfl | rfl | rfl <;> rfl) (.there .here) (Nat.le_refl 6) rfl hex ?_
    refine go _ ?_
    refine J_ret ?_
    exact ends_retC [.cell 8 137, .tmp 9] [.agg #[.pointer (some ⟨rb, 0, none⟩), .slice (some ⟨b0, o0, none⟩) n cp, .int .u32 (off : Nat), .int .u32 (start : Nat), .int .u32 (d off : Nat), .int .u32 (Nat.log2 (d off) : Nat)], .nilIface] ⟨⟨cb, 0, 5, _, rfl, rfl, rfl, List.mem_cons_of_mem _ List.mem_cons_self, Nat.le_refl 6, rfl⟩, rfl, trivial⟩ (post := [(rb, rdB x s)]) (junk := [(eb, _), (cb, _)]) ⟨rfl, by rw [if_neg hnz']; rfl⟩ rfl (.of_perm (List.perm_append_comm (l₁ := [_, _]) (l₂ := [_])))
end Go.Proofs.YtogmacnlpclgkaaDoor
