/-
  TEXTS MERGED: P2, P3, C1.
-/
import Derived.Test.YtogmacnlpclgkaaDoorK20
/-! PLAIN LAWS 2: the places of an FSE table's symbols. -/
namespace Go.Pz

def fstep (size : Nat) : Nat := size / 2 + size / 8 + 3
/-- The j-th place. -/
def fpos (size j : Nat) : Nat := j * fstep size % size
/-- How many of the first j places are below H. -/
def cntG (size H : Nat) : Nat → Nat
  | 0 => 0
  | j + 1 => cntG size H j + if fpos size j < H then 1 else 0
def cntE (size h : Nat) : Nat → Nat
  | 0 => 0
  | j + 1 => cntE size h j + if fpos size j = h then 1 else 0

/-- The number that undoes the step. -/
def finv (size : Nat) : Nat := if size = 32 then 7 else if size = 64 then 3 else if size = 128 then 91 else if size = 256 then 11 else 363
def fidx (size p : Nat) : Nat := p * finv size % size
/-- The sizes that there are. -/
def SizeOk (size : Nat) : Prop := size = 32 ∨ size = 64 ∨ size = 128 ∨ size = 256 ∨ size = 512
instance (size : Nat) : Decidable (SizeOk size) := by unfold SizeOk; infer_instance
theorem SizeOk.pos {size : Nat} (h : SizeOk size) : 0 < size := by rcases h with rfl | rfl | rfl | rfl | rfl <;> decide
theorem SizeOk.le {size : Nat} (h : SizeOk size) : size ≤ 512 := by rcases h with rfl | rfl | rfl | rfl | rfl <;> decide
theorem SizeOk.inv {size : Nat} (h : SizeOk size) : fstep size * finv size % size = 1 := by rcases h with rfl | rfl | rfl | rfl | rfl <;> decide
theorem SizeOk.of_log {log : Nat} (h5 : 5 ≤ log) (h9 : log ≤ 9) : SizeOk (2 ^ log) := by
  have : log = 5 ∨ log = 6 ∨ log = 7 ∨ log = 8 ∨ log = 9 := by omega
  rcases this with rfl | rfl | rfl | rfl | rfl <;> decide

theorem mod_mul_mod' {a b n : Nat} : a % n * b % n = a * b % n := by rw [Nat.mul_mod, Nat.mod_mod, ← Nat.mul_mod]
theorem fidx_fpos {size : Nat} (h : SizeOk size) {j : Nat} (hj : j < size) : fidx size (fpos size j) = j := by
  unfold fidx fpos
  rw [mod_mul_mod', Nat.mul_assoc, Nat.mul_mod, h.inv, Nat.mul_one, Nat.mod_mod, Nat.mod_eq_of_lt hj]
theorem fpos_fidx {size : Nat} (h : SizeOk size) {p : Nat} (hp : p < size) : fpos size (fidx size p) = p := by
  unfold fidx fpos
  rw [show p * finv size % size * fstep size % size = p * finv size * fstep size % size by rw [Nat.mul_mod, Nat.mod_mod, ← Nat.mul_mod], Nat.mul_assoc, Nat.mul_comm (finv size), Nat.mul_mod, h.inv, Nat.mul_one, Nat.mod_mod, Nat.mod_eq_of_lt hp]
theorem fidx_lt {size : Nat} (h : SizeOk size) (p : Nat) : fidx size p < size := Nat.mod_lt _ h.pos
theorem fpos_lt {size : Nat} (h : SizeOk size) (j : Nat) : fpos size j < size := Nat.mod_lt _ h.pos
theorem fpos_succ (size j : Nat) : fpos size (j + 1) = (fpos size j + fstep size) % size := by
  unfold fpos
  rw [Nat.add_mul, Nat.one_mul, Nat.mod_add_mod]
theorem fpos_zero (size : Nat) : fpos size 0 = 0 := by simp [fpos]
theorem fpos_size (size : Nat) : fpos size size = 0 := by simp [fpos]

theorem cntE_eq {size h : Nat} (hs : SizeOk size) (hh : h < size) : ∀ j, j ≤ size → cntE size h j = if fidx size h < j then 1 else 0
  | 0, _ => by simp [cntE]
  | j + 1, hj => by
    rw [cntE, cntE_eq hs hh j (by omega)]
    by_cases h1 : fpos size j = h
    · have : fidx size h = j := by rw [← h1]; exact fidx_fpos hs (by omega)
      rw [if_pos h1, if_neg (by omega), if_pos (by omega)]
    · have : fidx size h ≠ j := fun e => h1 (by rw [← e]; exact fpos_fidx hs hh)
      rw [if_neg h1]
      by_cases h2 : fidx size h < j
      · rw [if_pos h2, if_pos (by omega)]
      · rw [if_neg h2, if_neg (by omega)]
theorem cntG_succ_H (size H : Nat) : ∀ j, cntG size (H + 1) j = cntG size H j + cntE size H j
  | 0 => rfl
  | j + 1 => by
    rw [cntG, cntG, cntE, cntG_succ_H size H j]
    by_cases h1 : fpos size j < H
    · rw [if_pos h1, if_pos (by omega), if_neg (by omega)]; omega
    · by_cases h2 : fpos size j = H
      · rw [if_neg h1, if_pos (by omega), if_pos h2]; omega
      · rw [if_neg h1, if_neg (by omega), if_neg h2]; omega
theorem cntG_zero (size : Nat) : ∀ j, cntG size 0 j = 0
  | 0 => rfl
  | j + 1 => by rw [cntG, cntG_zero size j, if_neg (by omega)]
/-- All places below H come once. -/
theorem cntG_size {size : Nat} (hs : SizeOk size) : ∀ {H : Nat}, H ≤ size → cntG size H size = H
  | 0, _ => cntG_zero size size
  | H + 1, h => by
    rw [cntG_succ_H, cntG_size hs (by omega), cntE_eq hs (by omega) size (Nat.le_refl _), if_pos (fidx_lt hs _)]
theorem cntG_mono (size H : Nat) {i : Nat} : ∀ {j : Nat}, i ≤ j → cntG size H i ≤ cntG size H j
  | 0, h => by obtain rfl : i = 0 := by omega
               exact Nat.le_refl _
  | j + 1, h => by
    rcases Nat.lt_or_ge i (j + 1) with h1 | h1
    · have := cntG_mono size H (i := i) (j := j) (by omega)
      rw [cntG]; omega
    · obtain rfl : i = j + 1 := by omega
      exact Nat.le_refl _
theorem cntG_lt {size H i j : Nat} (h : i < j) (hi : fpos size i < H) : cntG size H i < cntG size H j := by
  have := cntG_mono size H (i := i + 1) (j := j) h
  rw [cntG, if_pos hi] at this; omega
/-- Where all are laid, the walk is at its begin again. -/
theorem fpos_end {size H j : Nat} (hs : SizeOk size) (hH : H ≤ size) (hj : j ≤ size) (hg : fpos size j < H) (hc : cntG size H j = H) : j = size := by
  rcases Nat.lt_or_ge j size with h | h
  · have := cntG_lt h hg
    rw [cntG_size hs hH] at this; omega
  · omega

/-! Symbols with their shares -/
/-- The shares above 0 of the first n symbols; how many of them are below 0. -/
def posSum (sh : Nat → Int) : Nat → Nat
  | 0 => 0
  | n + 1 => posSum sh n + (sh n).toNat
def negCnt (sh : Nat → Int) : Nat → Nat
  | 0 => 0
  | n + 1 => negCnt sh n + if sh n < 0 then 1 else 0
/-- The symbol of the k-th place that is laid. -/
def symSeq (sh : Nat → Int) : Nat → Nat → Nat
  | 0, _ => 0
  | n + 1, k => if posSum sh n ≤ k then n else symSeq sh n k
/-- The k-th symbol whose share is below 0. -/
def negSym (sh : Nat → Int) : Nat → Nat → Nat
  | 0, _ => 0
  | n + 1, k => if negCnt sh n = k ∧ sh n < 0 then n else negSym sh n k

theorem posSum_mono (sh : Nat → Int) {i : Nat} : ∀ {j : Nat}, i ≤ j → posSum sh i ≤ posSum sh j
  | 0, h => by obtain rfl : i = 0 := by omega
               exact Nat.le_refl _
  | j + 1, h => by
    rcases Nat.lt_or_ge i (j + 1) with h1 | h1
    · have := posSum_mono sh (i := i) (j := j) (by omega)
      rw [posSum]; omega
    · obtain rfl : i = j + 1 := by omega
      exact Nat.le_refl _
theorem negCnt_mono (sh : Nat → Int) {i : Nat} : ∀ {j : Nat}, i ≤ j → negCnt sh i ≤ negCnt sh j
  | 0, h => by obtain rfl : i = 0 := by omega
               exact Nat.le_refl _
  | j + 1, h => by
    rcases Nat.lt_or_ge i (j + 1) with h1 | h1
    · have := negCnt_mono sh (i := i) (j := j) (by omega)
      rw [negCnt]; omega
    · obtain rfl : i = j + 1 := by omega
      exact Nat.le_refl _
theorem symSeq_eq (sh : Nat → Int) {s k : Nat} (h1 : posSum sh s ≤ k) (h2 : k < posSum sh (s + 1)) : ∀ {n : Nat}, s < n → symSeq sh n k = s
  | n + 1, h => by
    rw [symSeq]
    rcases Nat.lt_or_ge s n with h3 | h3
    · have := posSum_mono sh (i := s + 1) (j := n) h3
      rw [if_neg (by omega), symSeq_eq sh h1 h2 h3]
    · obtain rfl : s = n := by omega
      rw [if_pos h1]
theorem symSeq_is (sh : Nat → Int) : ∀ {n k : Nat}, k < posSum sh n → ∃ s, s < n ∧ symSeq sh n k = s ∧ posSum sh s ≤ k ∧ k < posSum sh (s + 1)
  | 0, k, h => by simp [posSum] at h
  | n + 1, k, h => by
    rw [symSeq]
    by_cases h1 : posSum sh n ≤ k
    · rw [if_pos h1]; exact ⟨n, by omega, rfl, h1, h⟩
    · rw [if_neg h1]
      obtain ⟨s, h2, h3⟩ := symSeq_is sh (n := n) (k := k) (by omega)
      exact ⟨s, by omega, h3⟩
theorem negSym_eq (sh : Nat → Int) {s : Nat} (h1 : sh s < 0) : ∀ {n : Nat}, s < n → negSym sh n (negCnt sh s) = s
  | n + 1, h => by
    rw [negSym]
    rcases Nat.lt_or_ge s n with h3 | h3
    · have := negCnt_mono sh (i := s + 1) (j := n) h3
      rw [negCnt, if_pos h1] at this
      rw [if_neg (by omega), negSym_eq sh h1 h3]
    · obtain rfl : s = n := by omega
      rw [if_pos ⟨rfl, h1⟩]
theorem negSym_is (sh : Nat → Int) : ∀ {n k : Nat}, k < negCnt sh n → ∃ s, s < n ∧ negSym sh n k = s ∧ sh s < 0 ∧ negCnt sh s = k
  | 0, k, h => by simp [negCnt] at h
  | n + 1, k, h => by
    rw [negSym]
    by_cases h1 : negCnt sh n = k ∧ sh n < 0
    · rw [if_pos h1]; exact ⟨n, by omega, rfl, h1.2, h1.1⟩
    · rw [if_neg h1]
      obtain ⟨s, h2, h3⟩ := negSym_is sh (n := n) (k := k) (by
        rw [negCnt] at h
        split at h
        · rename_i h2; have : negCnt sh n ≠ k := fun e => h1 ⟨e, h2⟩
          omega
        · omega)
      exact ⟨s, by omega, h3⟩

/-! The table -/
/-- The symbol at a place of a table of n symbols. -/
def symTab (sh : Nat → Int) (n size p : Nat) : Nat :=
  let H := size - negCnt sh n
  if p < H then symSeq sh n (cntG size H (fidx size p)) else negSym sh n (size - 1 - p)
/-- How many places ahead of p have the symbol s. -/
def cntS (tab : Nat → Nat) (s : Nat) : Nat → Nat
  | 0 => 0
  | p + 1 => cntS tab s p + if tab p = s then 1 else 0
/-- The number of a place among those of its symbol, from its share on. -/
def cellN (sh : Nat → Int) (n size p : Nat) : Nat :=
  let s := symTab sh n size p
  (if sh s < 0 then 1 else (sh s).toNat) + cntS (symTab sh n size) s p
def cellBits (sh : Nat → Int) (n log p : Nat) : Nat := log - Nat.log2 (cellN sh n (2 ^ log) p)
def cellBase (sh : Nat → Int) (n log p : Nat) : Nat := cellN sh n (2 ^ log) p * 2 ^ cellBits sh n log p - 2 ^ log

/-! How often a symbol comes -/
def cntA (A : Nat → Bool) (size H : Nat) : Nat → Nat
  | 0 => 0
  | j + 1 => cntA A size H j + if fpos size j < H ∧ A (fpos size j) = true then 1 else 0
theorem cntA_succ_H (A : Nat → Bool) (size H : Nat) : ∀ j, cntA A size (H + 1) j = cntA A size H j + if A H = true then cntE size H j else 0
  | 0 => by simp [cntA, cntE]
  | j + 1 => by
    rw [cntA, cntA, cntE, cntA_succ_H A size H j]
    by_cases h1 : fpos size j < H
    · have e2 : ¬ fpos size j = H := by omega
      have e3 : fpos size j < H + 1 := by omega
      by_cases h3 : A (fpos size j) = true <;> by_cases h4 : A H = true <;> simp only [h1, h3, h4, e2, e3, and_true, and_false, true_and, false_and, if_true, if_false, Bool.false_eq_true] <;> omega
    · by_cases h2 : fpos size j = H
      · have e3 : fpos size j < H + 1 := by omega
        rw [h2] at h1 e3 ⊢
        by_cases h4 : A H = true <;> simp only [h1, h4, e3, and_true, and_false, true_and, false_and, if_true, if_false, Bool.false_eq_true] <;> omega
      · have e3 : ¬ fpos size j < H + 1 := by omega
        by_cases h3 : A (fpos size j) = true <;> by_cases h4 : A H = true <;> simp only [h1, h2, h3, h4, e3, and_true, and_false, true_and, false_and, if_true, if_false, Bool.false_eq_true] <;> omega
def cntP (A : Nat → Bool) : Nat → Nat
  | 0 => 0
  | p + 1 => cntP A p + if A p = true then 1 else 0
theorem cntA_zero (A : Nat → Bool) (size : Nat) : ∀ j, cntA A size 0 j = 0
  | 0 => rfl
  | j + 1 => by rw [cntA, cntA_zero A size j, if_neg (fun h => by omega)]
theorem cntA_size (A : Nat → Bool) {size : Nat} (hs : SizeOk size) : ∀ {H : Nat}, H ≤ size → cntA A size H size = cntP A H
  | 0, _ => cntA_zero A size size
  | H + 1, h => by
    rw [cntA_succ_H, cntA_size A hs (by omega), cntE_eq hs (by omega) size (Nat.le_refl _), if_pos (fidx_lt hs _), cntP]
def cntK (sh : Nat → Int) (n s : Nat) : Nat → Nat
  | 0 => 0
  | k + 1 => cntK sh n s k + if symSeq sh n k = s then 1 else 0
theorem cntK_eq (sh : Nat → Int) {n s : Nat} (hs : s < n) : ∀ {k : Nat}, k ≤ posSum sh n → cntK sh n s k = min k (posSum sh (s + 1)) - min k (posSum sh s)
  | 0, _ => by simp [cntK]
  | k + 1, h => by
    rw [cntK, cntK_eq sh hs (by omega)]
    have hm : posSum sh s ≤ posSum sh (s + 1) := posSum_mono sh (by omega)
    by_cases h1 : posSum sh s ≤ k ∧ k < posSum sh (s + 1)
    · rw [if_pos (symSeq_eq sh h1.1 h1.2 hs)]; omega
    · rw [if_neg (fun e => by
        obtain ⟨t, h2, h3, h4, h5⟩ := symSeq_is sh (n := n) (k := k) (by omega)
        rw [h3] at e; subst e; exact h1 ⟨h4, h5⟩)]
      omega
theorem symTab_fpos (sh : Nat → Int) (n : Nat) {size j : Nat} (hs : SizeOk size) (hj : j < size) (hg : fpos size j < size - negCnt sh n) :
    symTab sh n size (fpos size j) = symSeq sh n (cntG size (size - negCnt sh n) j) := by
  unfold symTab
  simp only
  rw [if_pos hg, fidx_fpos hs hj]
theorem cntA_sym (sh : Nat → Int) (n s : Nat) {size : Nat} (hs : SizeOk size) : ∀ {j : Nat}, j ≤ size →
    cntA (fun p => symTab sh n size p == s) size (size - negCnt sh n) j = cntK sh n s (cntG size (size - negCnt sh n) j)
  | 0, _ => rfl
  | j + 1, h => by
    rw [cntA, cntG, cntA_sym sh n s hs (by omega)]
    by_cases hg : fpos size j < size - negCnt sh n
    · rw [if_pos hg, cntK]
      simp only [symTab_fpos sh n hs (show j < size by omega) hg, beq_iff_eq]
      congr 1
      by_cases h2 : symSeq sh n (cntG size (size - negCnt sh n) j) = s
      · rw [if_pos ⟨hg, h2⟩, if_pos h2]
      · rw [if_neg (fun h => h2 h.2), if_neg h2]
    · rw [if_neg hg, if_neg (fun h => hg h.1)]; rfl
theorem cntS_P (tab : Nat → Nat) (s : Nat) : ∀ p, cntS tab s p = cntP (fun p => tab p == s) p
  | 0 => rfl
  | p + 1 => by rw [cntS, cntP, cntS_P tab s p]; simp
/-- Shares that fill a table. -/
structure Fills (sh : Nat → Int) (n size : Nat) : Prop where
  ok : SizeOk size
  ge : ∀ s, s < n → -1 ≤ sh s
  sum : posSum sh n + negCnt sh n = size
theorem Fills.low {sh : Nat → Int} {n size : Nat} (f : Fills sh n size) : size - negCnt sh n = posSum sh n := by have := f.sum; omega
theorem cntS_low {sh : Nat → Int} {n size s : Nat} (f : Fills sh n size) (hs : s < n) : cntS (symTab sh n size) s (size - negCnt sh n) = (sh s).toNat := by
  rw [cntS_P, ← cntA_size _ f.ok (by omega), cntA_sym sh n s f.ok (Nat.le_refl _), cntG_size f.ok (by omega), f.low, cntK_eq sh hs (Nat.le_refl _)]
  have h1 := posSum_mono sh (i := s + 1) (j := n) hs
  rw [posSum] at h1 ⊢; omega
theorem cntS_mono (tab : Nat → Nat) (s : Nat) {i : Nat} : ∀ {j : Nat}, i ≤ j → cntS tab s i ≤ cntS tab s j
  | 0, h => by obtain rfl : i = 0 := by omega
               exact Nat.le_refl _
  | j + 1, h => by
    rcases Nat.lt_or_ge i (j + 1) with h1 | h1
    · have := cntS_mono tab s (i := i) (j := j) (by omega)
      rw [cntS]; omega
    · obtain rfl : i = j + 1 := by omega
      exact Nat.le_refl _
/-- A place's symbol. -/
theorem symTab_low {sh : Nat → Int} {n size p : Nat} (f : Fills sh n size) (hp : p < size - negCnt sh n) : symTab sh n size p < n ∧ 0 < sh (symTab sh n size p) := by
  have h0 : cntG size (size - negCnt sh n) (fidx size p) < posSum sh n := by
    have h1 := cntG_lt (size := size) (H := size - negCnt sh n) (i := fidx size p) (j := size) (fidx_lt f.ok _) (by rw [fpos_fidx f.ok (by omega)]; exact hp)
    rw [cntG_size f.ok (by omega), f.low] at h1
    rw [f.low]; exact h1
  obtain ⟨s, h1, h2, h3, h4⟩ := symSeq_is sh h0
  have : symTab sh n size p = s := by unfold symTab; simp only; rw [if_pos hp]; exact h2
  rw [this]
  refine ⟨h1, ?_⟩
  rw [posSum] at h4; omega
theorem symTab_high {sh : Nat → Int} {n size p : Nat} (hp : ¬ p < size - negCnt sh n) (hps : p < size) : symTab sh n size p < n ∧ sh (symTab sh n size p) < 0 ∧ negCnt sh (symTab sh n size p) = size - 1 - p := by
  obtain ⟨s, h1, h2, h3, h4⟩ := negSym_is sh (n := n) (k := size - 1 - p) (by omega)
  have : symTab sh n size p = s := by unfold symTab; simp only; rw [if_neg hp]; exact h2
  rw [this]; exact ⟨h1, h3, h4⟩
theorem cellN_low {sh : Nat → Int} {n size p : Nat} (f : Fills sh n size) (hp : p < size - negCnt sh n) :
    (sh (symTab sh n size p)).toNat ≤ cellN sh n size p ∧ cellN sh n size p < 2 * (sh (symTab sh n size p)).toNat := by
  obtain ⟨h1, h2⟩ := symTab_low f hp
  have h3 := cntS_low f h1
  have h4 : cntS (symTab sh n size) (symTab sh n size p) p < (sh (symTab sh n size p)).toNat := by
    have := cntS_mono (symTab sh n size) (symTab sh n size p) (i := p + 1) (j := size - negCnt sh n) hp
    rw [cntS, if_pos rfl] at this; omega
  unfold cellN
  simp only
  rw [if_neg (by omega)]; omega
theorem cntS_none {tab : Nat → Nat} {s : Nat} : ∀ {p : Nat}, (∀ i, i < p → tab i ≠ s) → cntS tab s p = 0
  | 0, _ => rfl
  | p + 1, h => by rw [cntS, cntS_none (fun i hi => h i (by omega)), if_neg (h p (by omega))]
theorem cellN_high {sh : Nat → Int} {n size p : Nat} (f : Fills sh n size) (hp : ¬ p < size - negCnt sh n) (hps : p < size) : cellN sh n size p = 1 := by
  obtain ⟨h1, h2, h3⟩ := symTab_high hp hps
  unfold cellN
  simp only
  rw [if_pos h2, cntS_none]
  intro i hi e
  by_cases hil : i < size - negCnt sh n
  · have := (symTab_low f hil).2
    rw [e] at this; omega
  · have := (symTab_high hil (by omega)).2.2
    rw [e, h3] at this; omega
theorem share_le {sh : Nat → Int} {n s : Nat} (hs : s < n) : (sh s).toNat ≤ posSum sh n := by
  have h1 := posSum_mono sh (i := s + 1) (j := n) hs
  rw [posSum] at h1; omega
theorem cellN_pos {sh : Nat → Int} {n size p : Nat} (f : Fills sh n size) (hps : p < size) : 0 < cellN sh n size p ∧ cellN sh n size p < 2 * size := by
  have hsz := f.ok.pos
  by_cases hp : p < size - negCnt sh n
  · obtain ⟨h1, h2⟩ := cellN_low f hp
    obtain ⟨h3, h4⟩ := symTab_low f hp
    have := share_le (sh := sh) h3
    have := f.sum
    omega
  · rw [cellN_high f hp hps]; omega
/-- Where the next states lie. -/
theorem cell_ok {sh : Nat → Int} {n log p : Nat} (f : Fills sh n (2 ^ log)) (hps : p < 2 ^ log) :
    2 ^ log ≤ cellN sh n (2 ^ log) p * 2 ^ cellBits sh n log p ∧ cellBits sh n log p ≤ log ∧ cellBase sh n log p + 2 ^ cellBits sh n log p ≤ 2 ^ log := by
  obtain ⟨h1, h2⟩ := cellN_pos f hps
  unfold cellBase cellBits
  generalize cellN sh n (2 ^ log) p = c at *
  have hl1 : 2 ^ Nat.log2 c ≤ c := Nat.log2_self_le (by omega)
  have hl2 : c < 2 ^ (Nat.log2 c + 1) := Nat.lt_log2_self
  have hl3 : Nat.log2 c ≤ log := by
    rcases Nat.lt_or_ge log (Nat.log2 c) with h | h
    · have : 2 ^ (log + 1) ≤ 2 ^ Nat.log2 c := Nat.pow_le_pow_right (by omega) h
      rw [Nat.pow_succ] at this; omega
    · exact h
  have e1 : 2 ^ Nat.log2 c * 2 ^ (log - Nat.log2 c) = 2 ^ log := by rw [← Nat.pow_add]; congr 1; omega
  have e2 : (c + 1) * 2 ^ (log - Nat.log2 c) ≤ 2 * 2 ^ log := by
    have : (c + 1) * 2 ^ (log - Nat.log2 c) ≤ 2 ^ (Nat.log2 c + 1) * 2 ^ (log - Nat.log2 c) := Nat.mul_le_mul_right _ hl2
    rw [Nat.pow_succ, Nat.mul_assoc, Nat.mul_comm 2, ← Nat.mul_assoc, e1] at this
    omega
  have e3 : 2 ^ log ≤ c * 2 ^ (log - Nat.log2 c) := by rw [← e1]; exact Nat.mul_le_mul_right _ hl1
  rw [Nat.add_mul, Nat.one_mul] at e2
  exact ⟨e3, by omega, by omega⟩

end Go.Pz

/-! PLAIN LAWS 3: the description of an FSE table. -/
namespace Go.Pz

/-- A value from 0 to most at place q (small ones have one bit less), and how many bits it has. -/
def fval (d : Nat → Nat) (q most : Nat) : Nat × Nat :=
  let n := Nat.log2 most + 1
  let few := 2 ^ n - 1 - most
  let v := bitsAt d q (n - 1)
  if v < few then (v, n - 1)
  else
    let w := bitsAt d q n
    (if 2 ^ (n - 1) ≤ w then w - few else w, n)
/-- How many times the two bits 11 come from place q on. -/
def zrun (d : Nat → Nat) : Nat → Nat → Nat
  | _, 0 => 0
  | q, k + 1 => if bitsAt d q 2 = 3 then zrun d (q + 2) k + 1 else 0
def updI (sh : Nat → Int) (c : Nat) (p : Int) : Nat → Int := fun i => if i = c then p else sh i
/-- The shares of symbols up to mx from place q on, where left is left to be shared; look: 16 bits are asked for ahead of each. -/
def fseLoop (look : Bool) (d : Nat → Nat) (N mx : Nat) : Nat → Nat → Nat → (Nat → Int) → Nat → Option ((Nat → Int) × Nat × Nat)
  | 0, _, _, _, _ => none
  | k + 1, q, left, sh, c =>
    if left = 0 then some (sh, c, q)
    else if mx < c then none
    else
      let r := fval d q (left + 1)
      if 8 * N < q + (if look then 16 else r.2) then none
      else
        let p : Int := (r.1 : Int) - 1
        let sh' := updI sh c p
        let q' := q + r.2
        if p = 0 then
          let z := zrun d q' (4 * N)
          if mx < c + 1 then none
          else if 8 * N < q' + 2 * z + (if look then 16 else 2) then none
          else
            let c' := c + 1 + 3 * z + bitsAt d (q' + 2 * z) 2
            if mx < c' then none
            else fseLoop look d N mx k (q' + 2 * z + 2) left sh' c'
        else fseLoop look d N mx k q' (left - p.natAbs) sh' (c + 1)
/-- How many bits a state has, the shares, how many there are, the place behind. -/
def probs (look : Bool) (d : Nat → Nat) (N mxlog mx q : Nat) : Option (Nat × (Nat → Int) × Nat × Nat) :=
  if 8 * N < q + (if look then 16 else 4) then none
  else
    let log := bitsAt d q 4 + 5
    if mxlog < log then none
    else (fseLoop look d N mx (mx + 2) (q + 4) (2 ^ log) (fun _ => 0) 0).map fun r => (log, r)

theorem fval_le (d : Nat → Nat) (q : Nat) {most : Nat} (h : 1 ≤ most) : (fval d q most).1 ≤ most ∧ (fval d q most).2 ≤ Nat.log2 most + 1 ∧ Nat.log2 most ≤ (fval d q most).2 := by
  have h1 : 2 ^ Nat.log2 most ≤ most := Nat.log2_self_le (by omega)
  have h2 : most < 2 ^ (Nat.log2 most + 1) := Nat.lt_log2_self
  unfold fval
  simp only [Nat.add_sub_cancel]
  have h3 := bitsAt_lt d (Nat.log2 most) q
  have h4 := bitsAt_lt d (Nat.log2 most + 1) q
  rw [Nat.pow_succ] at *
  split
  · exact ⟨by simp only; omega, by simp only; omega, Nat.le_refl _⟩
  · refine ⟨?_, Nat.le_refl _, by simp only; omega⟩
    simp only
    split <;> omega

theorem posSum_congr {sh sh' : Nat → Int} : ∀ {n : Nat}, (∀ i, i < n → sh i = sh' i) → posSum sh n = posSum sh' n
  | 0, _ => rfl
  | n + 1, h => by rw [posSum, posSum, posSum_congr (fun i hi => h i (by omega)), h n (by omega)]
theorem negCnt_congr {sh sh' : Nat → Int} : ∀ {n : Nat}, (∀ i, i < n → sh i = sh' i) → negCnt sh n = negCnt sh' n
  | 0, _ => rfl
  | n + 1, h => by rw [negCnt, negCnt, negCnt_congr (fun i hi => h i (by omega)), h n (by omega)]
theorem posSum_zeros {sh : Nat → Int} {c : Nat} : ∀ {n : Nat}, c ≤ n → (∀ i, c ≤ i → sh i = 0) → posSum sh n = posSum sh c
  | 0, h, _ => by obtain rfl : c = 0 := by omega
                  rfl
  | n + 1, h, hz => by
    rcases Nat.lt_or_ge c (n + 1) with h1 | h1
    · rw [posSum, posSum_zeros (n := n) (by omega) hz, hz n (by omega)]; rfl
    · obtain rfl : c = n + 1 := by omega
      rfl
theorem negCnt_zeros {sh : Nat → Int} {c : Nat} : ∀ {n : Nat}, c ≤ n → (∀ i, c ≤ i → sh i = 0) → negCnt sh n = negCnt sh c
  | 0, h, _ => by obtain rfl : c = 0 := by omega
                  rfl
  | n + 1, h, hz => by
    rcases Nat.lt_or_ge c (n + 1) with h1 | h1
    · rw [negCnt, negCnt_zeros (n := n) (by omega) hz, hz n (by omega)]; rfl
    · obtain rfl : c = n + 1 := by omega
      rfl
theorem negSym_zeros {sh : Nat → Int} {c k : Nat} : ∀ {n : Nat}, c ≤ n → (∀ i, c ≤ i → sh i = 0) → negSym sh n k = negSym sh c k
  | 0, h, _ => by obtain rfl : c = 0 := by omega
                  rfl
  | n + 1, h, hz => by
    rcases Nat.lt_or_ge c (n + 1) with h1 | h1
    · rw [negSym, negSym_zeros (n := n) (by omega) hz, if_neg (fun e => by rw [hz n (by omega)] at e; omega)]
    · obtain rfl : c = n + 1 := by omega
      rfl
theorem symSeq_zeros {sh : Nat → Int} {c k : Nat} (hk : k < posSum sh c) : ∀ {n : Nat}, c ≤ n → (∀ i, c ≤ i → sh i = 0) → symSeq sh n k = symSeq sh c k
  | 0, h, _ => by obtain rfl : c = 0 := by omega
                  rfl
  | n + 1, h, hz => by
    rcases Nat.lt_or_ge c (n + 1) with h1 | h1
    · rw [symSeq, if_neg (by rw [posSum_zeros (n := n) (by omega) hz]; omega), symSeq_zeros hk (n := n) (by omega) hz]
    · obtain rfl : c = n + 1 := by omega
      rfl
/-- Symbols without a share change nothing. -/
theorem symTab_zeros {sh : Nat → Int} {c n size p : Nat} (f : Fills sh c size) (h : c ≤ n) (hz : ∀ i, c ≤ i → sh i = 0) : symTab sh n size p = symTab sh c size p := by
  unfold symTab
  simp only
  rw [negCnt_zeros h hz, negSym_zeros h hz]
  by_cases hp : p < size - negCnt sh c
  · rw [if_pos hp, if_pos hp]
    refine symSeq_zeros ?_ h hz
    have h1 := cntG_lt (size := size) (H := size - negCnt sh c) (i := fidx size p) (j := size) (fidx_lt f.ok _) (by rw [fpos_fidx f.ok (by omega)]; exact hp)
    rw [cntG_size f.ok (by omega), f.low] at h1
    rw [f.low]; exact h1
  · rw [if_neg hp, if_neg hp]
theorem Fills.zeros {sh : Nat → Int} {c n size : Nat} (f : Fills sh c size) (h : c ≤ n) (hz : ∀ i, c ≤ i → sh i = 0) : Fills sh n size where
  ok := f.ok
  ge s hs := by
    rcases Nat.lt_or_ge s c with h1 | h1
    · exact f.ge s h1
    · rw [hz s h1]; omega
  sum := by rw [posSum_zeros h hz, negCnt_zeros h hz]; exact f.sum

theorem log2_small {a : Nat} (h0 : 0 < a) (h : a ≤ 513) : Nat.log2 a ≤ 9 := by
  rcases Nat.lt_or_ge 9 (Nat.log2 a) with h1 | h1
  · have h2 : 2 ^ Nat.log2 a ≤ a := Nat.log2_self_le (by omega)
    have h3 : 2 ^ 10 ≤ 2 ^ Nat.log2 a := Nat.pow_le_pow_right (by omega) h1
    omega
  · exact h1
theorem log2_pos {a : Nat} (h : 2 ≤ a) : 1 ≤ Nat.log2 a := by
  rcases Nat.eq_zero_or_pos (Nat.log2 a) with h0 | h0
  · have h1 : a < 2 ^ (Nat.log2 a + 1) := Nat.lt_log2_self
    rw [h0] at h1; omega
  · exact h0
/-- One round. -/
theorem fseLoop_succ {look : Bool} {d : Nat → Nat} {N mx k q left : Nat} {sh : Nat → Int} {c : Nat} {R : (Nat → Int) × Nat × Nat} (h : fseLoop look d N mx (k + 1) q left sh c = some R) (hl : left ≠ 0) :
    c ≤ mx ∧ q + (if look then 16 else (fval d q (left + 1)).2) ≤ 8 * N ∧
    (((fval d q (left + 1)).1 = 1 ∧ c + 1 ≤ mx ∧
      (let q' := q + (fval d q (left + 1)).2
       let z := zrun d q' (4 * N)
       let c' := c + 1 + 3 * z + bitsAt d (q' + 2 * z) 2
       q' + 2 * z + (if look then 16 else 2) ≤ 8 * N ∧ c' ≤ mx ∧ fseLoop look d N mx k (q' + 2 * z + 2) left (updI sh c 0) c' = some R)) ∨
     ((fval d q (left + 1)).1 ≠ 1 ∧ fseLoop look d N mx k (q + (fval d q (left + 1)).2) (left - (((fval d q (left + 1)).1 : Int) - 1).natAbs) (updI sh c (((fval d q (left + 1)).1 : Int) - 1)) (c + 1) = some R)) := by
  unfold fseLoop at h
  rw [if_neg hl] at h
  by_cases hm : mx < c
  · rw [if_pos hm] at h; cases h
  rw [if_neg hm] at h
  simp only at h
  generalize fval d q (left + 1) = r at *
  by_cases hb : 8 * N < q + (if look then 16 else r.2)
  · rw [if_pos hb] at h; cases h
  rw [if_neg hb] at h
  refine ⟨by omega, by omega, ?_⟩
  by_cases hp : r.1 = 1
  · rw [if_pos (by omega)] at h
    left
    by_cases h1 : mx < c + 1
    · rw [if_pos h1] at h; cases h
    rw [if_neg h1] at h
    by_cases h2 : 8 * N < q + r.2 + 2 * zrun d (q + r.2) (4 * N) + (if look then 16 else 2)
    · rw [if_pos h2] at h; cases h
    rw [if_neg h2] at h
    by_cases h3 : mx < c + 1 + 3 * zrun d (q + r.2) (4 * N) + bitsAt d (q + r.2 + 2 * zrun d (q + r.2) (4 * N)) 2
    · rw [if_pos h3] at h; cases h
    rw [if_neg h3] at h
    rw [hp] at h
    exact ⟨hp, by omega, by omega, by omega, h⟩
  · rw [if_neg (by omega)] at h
    exact .inr ⟨hp, h⟩
theorem posSum_upd (sh : Nat → Int) (c : Nat) (p : Int) : posSum (updI sh c p) (c + 1) = posSum sh c + p.toNat := by
  rw [posSum, posSum_congr (sh' := sh) (fun i hi => by unfold updI; rw [if_neg (by omega)])]
  unfold updI; rw [if_pos rfl]
theorem negCnt_upd (sh : Nat → Int) (c : Nat) (p : Int) : negCnt (updI sh c p) (c + 1) = negCnt sh c + if p < 0 then 1 else 0 := by
  rw [negCnt, negCnt_congr (sh' := sh) (fun i hi => by unfold updI; rw [if_neg (by omega)])]
  unfold updI; rw [if_pos rfl]
/-- What is read fills a table. -/
theorem fseLoop_ok {look : Bool} {d : Nat → Nat} {N mx : Nat} : ∀ {k q left : Nat} {sh : Nat → Int} {c : Nat} {sh' : Nat → Int} {c' q' : Nat},
    fseLoop look d N mx k q left sh c = some (sh', c', q') → left ≤ 512 → c ≤ mx + 1 → (∀ i, c ≤ i → sh i = 0) → (∀ i, -1 ≤ sh i) →
    posSum sh' c' + negCnt sh' c' = posSum sh c + negCnt sh c + left ∧ c' ≤ mx + 1 ∧ (∀ i, c' ≤ i → sh' i = 0) ∧ (∀ i, -1 ≤ sh' i) ∧ q ≤ q' ∧ (left ≠ 0 → q < q' ∧ q' ≤ 8 * N)
  | 0, _, _, _, _, _, _, _, h, _, _, _, _ => by cases h
  | k + 1, q, left, sh, c, sh', c', q', h, hle, hc, hz, hge => by
    by_cases hl : left = 0
    · unfold fseLoop at h
      rw [if_pos hl] at h
      cases h
      exact ⟨by omega, hc, hz, hge, Nat.le_refl _, fun h => absurd hl h⟩
    obtain ⟨g1, g2, g3⟩ := fseLoop_succ h hl
    obtain ⟨v1, v2, v3⟩ := fval_le d q (most := left + 1) (by omega)
    have l9 := log2_small (a := left + 1) (by omega) (by omega)
    have l1 := log2_pos (a := left + 1) (by omega)
    generalize fval d q (left + 1) = r at *
    have g2' : q + r.2 ≤ 8 * N := by split at g2 <;> omega
    rcases g3 with ⟨p1, p2, p3⟩ | ⟨p1, p2⟩
    · simp only at p3
      obtain ⟨p3, p4, p5⟩ := p3
      have hu : ∀ i, c + 1 ≤ i → updI sh c 0 i = 0 := fun i hi => by unfold updI; rw [if_neg (by omega)]; exact hz i (by omega)
      have hge' : ∀ i, -1 ≤ updI sh c 0 i := fun i => by unfold updI; split; omega; exact hge i
      have ih := fseLoop_ok p5 hle (by omega) (fun i hi => hu i (by omega)) hge'
      rw [posSum_zeros (c := c + 1) (by omega) hu, negCnt_zeros (c := c + 1) (by omega) hu, posSum_upd, negCnt_upd] at ih
      obtain ⟨i1, i2, i3, i4, i5, i6⟩ := ih
      refine ⟨by rw [i1]; simp, i2, i3, i4, by omega, fun _ => ⟨by omega, (i6 hl).2⟩⟩
    · have hu : ∀ i, c + 1 ≤ i → updI sh c ((r.1 : Int) - 1) i = 0 := fun i hi => by unfold updI; rw [if_neg (by omega)]; exact hz i (by omega)
      have hge' : ∀ i, -1 ≤ updI sh c ((r.1 : Int) - 1) i := fun i => by unfold updI; split; omega; exact hge i
      have ih := fseLoop_ok p2 (by omega) (by omega) hu hge'
      rw [posSum_upd, negCnt_upd] at ih
      obtain ⟨i1, i2, i3, i4, i5, i6⟩ := ih
      refine ⟨by rw [i1]; split <;> omega, i2, i3, i4, by omega, fun _ => ⟨by omega, ?_⟩⟩
      by_cases h0 : left - ((r.1 : Int) - 1).natAbs = 0
      · rw [h0] at p2
        cases k with
        | zero => cases p2
        | succ k =>
          unfold fseLoop at p2
          rw [if_pos rfl] at p2
          cases p2
          exact g2'
      · exact (i6 h0).2

/-- Whoever looks ahead sees the same, where he sees it. -/
theorem fseLoop_less {d : Nat → Nat} {N mx : Nat} : ∀ {k q left : Nat} {sh : Nat → Int} {c : Nat} {R : (Nat → Int) × Nat × Nat},
    fseLoop true d N mx k q left sh c = some R → left ≤ 512 → fseLoop false d N mx k q left sh c = some R
  | 0, _, _, _, _, _, h, _ => by cases h
  | k + 1, q, left, sh, c, R, h, hle => by
    by_cases hl : left = 0
    · unfold fseLoop at h ⊢
      rw [if_pos hl] at h ⊢
      exact h
    obtain ⟨g1, g2, g3⟩ := fseLoop_succ h hl
    obtain ⟨v1, v2, v3⟩ := fval_le d q (most := left + 1) (by omega)
    have l9 := log2_small (a := left + 1) (by omega) (by omega)
    simp only [if_true] at g2 g3
    unfold fseLoop
    rw [if_neg hl, if_neg (by omega)]
    simp only [Bool.false_eq_true, if_false]
    rw [if_neg (by omega)]
    rcases g3 with ⟨p1, p2, p3, p4, p5⟩ | ⟨p1, p2⟩
    · rw [if_pos (by omega), if_neg (by omega), if_neg (by omega), if_neg (by omega), p1]
      exact fseLoop_less p5 hle
    · rw [if_neg (by omega)]
      exact fseLoop_less p2 (by omega)
theorem fseLoop_q {d : Nat → Nat} {N mx : Nat} : ∀ {k q left : Nat} {sh : Nat → Int} {c : Nat} {sh' : Nat → Int} {c' q' : Nat},
  fseLoop false d N mx k q left sh c = some (sh', c', q') → q ≤ q'
| 0, _, _, _, _, _, _, _, h => by cases h
| k + 1, q, left, sh, c, sh', c', q', h => by
  by_cases hl : left = 0
  · unfold fseLoop at h
    rw [if_pos hl] at h
    cases h
    exact Nat.le_refl _
  obtain ⟨g1, g2, g3⟩ := fseLoop_succ h hl
  rcases g3 with ⟨p1, p2, p3, p4, p5⟩ | ⟨p1, p2⟩
  · have := fseLoop_q p5; omega
  · have := fseLoop_q p2; omega
/-- .. and he sees it where two bytes stand behind. -/
theorem fseLoop_more {d : Nat → Nat} {N mx : Nat} : ∀ {k q left : Nat} {sh : Nat → Int} {c : Nat} {sh' : Nat → Int} {c' q' : Nat},
    fseLoop false d N mx k q left sh c = some (sh', c', q') → left ≤ 512 → c ≤ mx + 1 → q' + 15 ≤ 8 * N → fseLoop true d N mx k q left sh c = some (sh', c', q')
  | 0, _, _, _, _, _, _, _, h, _, _, _ => by cases h
  | k + 1, q, left, sh, c, sh', c', q', h, hle, hc, hq => by
    by_cases hl : left = 0
    · unfold fseLoop at h ⊢
      rw [if_pos hl] at h ⊢
      exact h
    obtain ⟨g1, g2, g3⟩ := fseLoop_succ h hl
    obtain ⟨v1, v2, v3⟩ := fval_le d q (most := left + 1) (by omega)
    have l1 := log2_pos (a := left + 1) (by omega)
    simp only [Bool.false_eq_true, if_false] at g2 g3
    unfold fseLoop
    rw [if_neg hl, if_neg (by omega)]
    simp only [if_true]
    rcases g3 with ⟨p1, p2, p3, p4, p5⟩ | ⟨p1, p2⟩
    · have ho := fseLoop_q p5
      rw [if_neg (by omega), if_pos (by omega), if_neg (by omega), if_neg (by omega), if_neg (by omega), p1]
      exact fseLoop_more p5 hle (by omega) hq
    · have ho := fseLoop_q p2
      rw [if_neg (by omega), if_neg (by omega)]
      exact fseLoop_more p2 (by omega) (by omega) hq

end Go.Pz

/-! COMPRESSED BLOCKS 1: the reader of bits, going forward. -/
namespace Go.Proofs.YtogmacnlpclgkaaDoor
open Go Go.Eng Go.Pz
attribute [local irreducible] RO J Trip Quiet
set_option maxRecDepth 20000
variable {G : Mem} {d : Nat → Nat}

/-- A reader of bits over the n bytes of data. -/
def fwB (rb : Nat) (da : Option Addr) (n cp off bits cnt : Nat) : Blk := listB [.pointer (some ⟨rb, 0, none⟩), .slice da n cp, .int .u32 (off : Nat), .int .u32 (bits : Nat), .int .u32 (cnt : Nat)] 172
theorem fw_234 (rb : Nat) (da : Option Addr) (n cp o b k o' b' k' : Nat) : ((((fwB rb da n cp o b k).st 2 (.int .u32 (o' : Nat))).st 3 (.int .u32 (b' : Nat))).st 4 (.int .u32 (k' : Nat))).obj = (fwB rb da n cp o' b' k').obj := blk_tab rfl rfl rfl rfl
theorem fw_34 (rb : Nat) (da : Option Addr) (n cp o b k b' k' : Nat) : (((fwB rb da n cp o b k).st 3 (.int .u32 (b' : Nat))).st 4 (.int .u32 (k' : Nat))).obj = (fwB rb da n cp o b' k').obj := blk_tab rfl rfl rfl rfl
theorem fw_24 (rb : Nat) (da : Option Addr) (n cp o b k o' k' : Nat) : (((fwB rb da n cp o b k).st 2 (.int .u32 (o' : Nat))).st 4 (.int .u32 (k' : Nat))).obj = (fwB rb da n cp o' b k').obj := blk_tab rfl rfl rfl rfl
/-- .. at the bit q, with k bits at hand. -/
def fwS (rb : Nat) (da : Option Addr) (n cp : Nat) (d : Nat → Nat) (q k : Nat) : Blk := fwB rb da n cp ((q + k) / 8) (bitsAt d q k) k

theorem or_add' {a b j : Nat} (h : a < 2 ^ j) : a ||| (b * 2 ^ j) = a + b * 2 ^ j := by
  have := Nat.shiftLeft_add_eq_or_of_lt h b
  rw [Nat.shiftLeft_eq] at this
  rw [Nat.or_comm, ← this]; omega

theorem more_t (S : Sent G) (bb rb : Nat) (x : Int) (s : RS) (da : Option Addr) (n cp : Nat) (hd : ∀ i, d i < 256) (hv : View G da n cp d) (hn : n ≤ 2 ^ 20) (q k : Nat) (hk : k ≤ 23) (h8 : (q + k) % 8 = 0) (hq : q + k ≤ 8 * n) :
    Trip Tryd.prog G 88 #[.pointer (some ⟨bb, 0, none⟩)] [(bb, fwS rb da n cp d q k), (rb, rdB x s)] (fun v m =>
      (q + 16 ≤ 8 * n ∧ v = .nilIface ∧ ∃ k', 16 ≤ k' ∧ k' ≤ 23 ∧ (q + k') % 8 = 0 ∧ q + k' ≤ 8 * n ∧ m = [(bb, fwS rb da n cp d q k'), (rb, rdB x s)]) ∨
      (8 * n < q + 16 ∧ ErrV S .z v ∧ ∃ B, m = [(bb, B), (rb, rdB x s)])) := by
  refine Trip_of Tryd.func88 rfl (by show 1 ≤ _; decide) (args := [.pointer (some ⟨bb, 0, none⟩)]) fun c h0 hex => ?_
  refine go _ ?_
  refine J_loopL (σ := Nat) [] (fun _ => [(0, .pointer (some ⟨bb, 0, none⟩))]) (fun k => [(bb, fwS rb da n cp d q k), (rb, rdB x s)]) (fun k => k ≤ 23 ∧ (q + k) % 8 = 0 ∧ q + k ≤ 8 * n) (fun k => 24 - k) k (.refl _) ⟨hk, h8, hq⟩ ?_
  clear hk h8 hq k
  rintro k f ⟨hk, h8, hq⟩
  have hbk := bitsAt_lt d k q
  have h2k : 2 ^ k ≤ 2 ^ 23 := Nat.pow_le_pow_right (by omega) hk
  refine go _ ?_
  refine J_condP rfl (fun hlt => ?_) (fun hge => ?_)
  · refine go _ ?_
    refine J_condP rfl (fun he => ?_) (fun hne => ?_)
    · refine go _ ?_
      refine ro_callT (meof_t S rb x s _) ?_
      rintro v m ⟨⟨b', rfl⟩, rfl⟩
      refine go _ ?_
      refine J_ret ?_
      exact ends_retS [2] (post := [(bb, _), (rb, rdB x s)]) (junk := []) (.inr ⟨by omega, ⟨b', rfl⟩, _, rfl⟩) rfl (MEqv.of_perm (List.Perm.swap _ _ _))
    · have hoff : (q + k) / 8 < n := by omega
      obtain ⟨b0, o0, rfl⟩ := hv.some (by omega)
      have hb0 := hd ((q + k) / 8)
      have hk16 : 2 ^ k ≤ 2 ^ 16 := Nat.pow_le_pow_right (by omega) (by omega)
      have hml : d ((q + k) / 8) * 2 ^ k ≤ 255 * 2 ^ 16 := Nat.mul_le_mul (by omega) hk16
      refine go _ ?_
      refine ro_orZ rfl rfl rfl rfl (by show _ < 2 ^ 32; omega) (by show _ < 2 ^ 32; omega) (or_add' hbk) rfl ?_
      refine go _ ?_
      refine ⟨k + 8, by omega, ⟨by omega, by omega, by omega⟩, ⟨rfl, trivial⟩, .cons ?_ (.refl _)⟩
      have e1 : (q + k) / 8 + 1 = (q + (k + 8)) / 8 := by omega
      have e2 : bitsAt d q k + d ((q + k) / 8) * 2 ^ k = bitsAt d q (k + 8) := by rw [bitsAt_push d hd q k ((q + k) / 8) (by omega), Nat.mul_comm]
      rw [e2]
      exact (fw_234 rb _ n cp _ _ _ _ _ _).trans (by rw [e1]; rfl)
  · refine go _ ?_
    refine J_ret ?_
    exact ends_retS [2] (.inl ⟨by omega, rfl, k, by omega, hk, h8, hq, rfl⟩)

/-- A value of b bits. -/
theorem val_t (bb rb : Nat) (da : Option Addr) (n cp : Nat) (q k b : Nat) (hb : b ≤ k) (hk : k ≤ 23) (h8 : (q + k) % 8 = 0) (hn : q + k < 2 ^ 32) :
    Trip Tryd.prog G 89 #[.pointer (some ⟨bb, 0, none⟩), .int .u8 (b : Nat)] [(bb, fwS rb da n cp d q k)] (fun v m => v = .int .u32 (bitsAt d q b : Nat) ∧ m = [(bb, fwS rb da n cp d (q + b) (k - b))]) := by
  refine Trip_of Tryd.func89 rfl (by show 2 ≤ _; decide) (args := [.pointer (some ⟨bb, 0, none⟩), .int .u8 (b : Nat)]) fun c h0 hex => ?_
  have hbk := bitsAt_lt d k q
  have h2k : 2 ^ k ≤ 2 ^ 23 := Nat.pow_le_pow_right (by omega) hk
  have h2b : 2 ^ b ≤ 2 ^ 23 := Nat.pow_le_pow_right (by omega) (by omega)
  have h1b : 1 ≤ 2 ^ b := Nat.one_le_two_pow
  refine go _ ?_
  refine J_ret ?_
  refine ends_retS [4] (post := [(bb, fwS rb da n cp d (q + b) (k - b))]) (junk := []) ⟨?_, rfl⟩ rfl (.cons ?_ .nil)
  · show Value.int .u32 ((bitsAt d q k &&& 1 * 2 ^ b - 1 : Nat) : Int) = .int .u32 ((bitsAt d q b : Nat) : Int)
    rw [Nat.one_mul, Nat.and_two_pow_sub_one_eq_mod, bitsAt_mod d q hb]
  · refine (fw_34 rb da n cp _ _ _ _ _).trans ?_
    rw [bitsAt_div d q hb, show (q + k) / 8 = (q + b + (k - b)) / 8 by omega]
    rfl

/-- Back to the byte in which the reader stands. -/
theorem backup_t (bb rb : Nat) (da : Option Addr) (n cp : Nat) (q k : Nat) (hk : k ≤ 23) (h8 : (q + k) % 8 = 0) (hn : q + k < 2 ^ 32) :
    Trip Tryd.prog G 91 #[.pointer (some ⟨bb, 0, none⟩)] [(bb, fwS rb da n cp d q k)] (fun _ m => ∃ B k', m = [(bb, fwB rb da n cp ((q + 7) / 8) B k')]) := by
  refine Trip_of Tryd.func91 rfl (by show 1 ≤ _; decide) (args := [.pointer (some ⟨bb, 0, none⟩)]) fun c h0 hex => ?_
  refine go _ ?_
  refine J_loopL (σ := Nat) [] (fun _ => [(0, .pointer (some ⟨bb, 0, none⟩))]) (fun k' => [(bb, fwB rb da n cp ((q + k') / 8) (bitsAt d q k) k')]) (fun k' => k' ≤ 23 ∧ (q + k') % 8 = 0) (fun k' => k') k (.refl _) ⟨hk, h8⟩ ?_
  rintro k' f ⟨hk', h8'⟩
  refine go _ ?_
  refine J_condP rfl (fun hge => ?_) (fun hlt => ?_)
  · refine go _ ?_
    refine ⟨k' - 8, by omega, ⟨by omega, by omega⟩, ⟨rfl, trivial⟩, .cons ((fw_24 rb da n cp _ _ _ _ _).trans ?_) .nil⟩
    rw [show (q + k') / 8 - 1 = (q + (k' - 8)) / 8 by omega]
  · refine go _ ?_
    exact ends_normalS [] ⟨bitsAt d q k, k', by rw [show (q + 7) / 8 = (q + k') / 8 by omega]⟩

theorem fwErr_t (S : Sent G) (bb rb : Nat) (x : Int) (s : RS) (da : Option Addr) (n cp off bits cnt : Nat) (hoff : off < 2 ^ 32) (str : ByteArray) :
    Trip Tryd.prog G 90 #[.pointer (some ⟨bb, 0, none⟩), .string str] [(bb, fwB rb da n cp off bits cnt), (rb, rdB x s)] (fun v m => ErrV S .z v ∧ m = [(bb, fwB rb da n cp off bits cnt), (rb, rdB x s)]) := by
  refine Trip_of Tryd.func90 rfl (by show 2 ≤ _; decide) (args := [.pointer (some ⟨bb, 0, none⟩), .string str]) fun c h0 hex => ?_
  refine go _ ?_
  refine ro_callT (merr_t S rb x s _ _) ?_
  rintro v m ⟨⟨b', rfl⟩, rfl⟩
  refine go _ ?_
  refine J_ret ?_
  exact ends_retS [4] (post := [(bb, _), (rb, rdB x s)]) (junk := []) ⟨⟨b', rfl⟩, rfl⟩ rfl (MEqv.of_perm (List.Perm.swap _ _ _))

theorem mkbr_t (rb : Nat) (da : Option Addr) (n cp off : Nat) (hoff : off < 2 ^ 32) :
    Trip Tryd.prog G 87 #[.pointer (some ⟨rb, 0, none⟩), .slice da n cp, .int .i64 (off : Nat)] [] (fun v m => m = [] ∧ v = .agg #[.pointer (some ⟨rb, 0, none⟩), .slice da n cp, .int .u32 (off : Nat), .int .u32 0, .int .u32 0]) := by
  refine Trip_of Tryd.func87 rfl (by show 3 ≤ _; decide) (args := [.pointer (some ⟨rb, 0, none⟩), .slice da n cp, .int .i64 (off : Nat)]) fun c h0 hex => ?_
  refine go _ ?_
  refine ro_alloc z172 rfl hex fun cb hcb => ?_
  refine go _ ?_
  refine ro_build1 (vs := [.pointer (some ⟨rb, 0, none⟩), .slice da n cp, .int .u32 (off : Nat), .int .u32 0, .int .u32 0]) rfl rfl z172 rfl rfl rfl rfl ?_
  refine go _ ?_
  refine ro_storeAgg (s := 4) (vs := [.pointer (some ⟨rb, 0, none⟩), .slice da n cp, .int .u32 (off : Nat), .int .u32 0, .int .u32 0]) rfl rfl rfl rfl (fun v hv => by simp only [List.mem_cons, List.not_mem_nil, or_false] at hv; rcases hv with rfl | rfl | rfl | rfl | rfl <;> rfl) .here (Nat.le_refl 5) rfl hex ?_
  refine go _ ?_
  refine J_ret ?_
  exact ends_retC [.cell 6 172] [.agg #[.pointer (some ⟨rb, 0, none⟩), .slice da n cp, .int .u32 (off : Nat), .int .u32 0, .int .u32 0]] ⟨⟨cb, 0, 4, _, rfl, rfl, rfl, List.mem_cons_self, Nat.le_refl 5, rfl⟩, trivial⟩ (post := []) (junk := [(cb, _)]) ⟨rfl, rfl⟩ rfl (.refl _)
end Go.Proofs.YtogmacnlpclgkaaDoor
