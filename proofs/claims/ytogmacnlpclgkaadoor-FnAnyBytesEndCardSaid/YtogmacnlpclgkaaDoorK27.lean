/-
  TEXTS MERGED: P5, EngL, C8.
-/
import Derived.Test.YtogmacnlpclgkaaDoorK24
import Derived.Test.YtogmacnlpclgkaaDoorK11
import Derived.Test.YtogmacnlpclgkaaDoorK12
import Derived.Test.YtogmacnlpclgkaaDoorK26
/-! PLAIN LAWS 5: what a compressed block makes: literals, tables, sequences. -/
namespace Go.Proofs.YtogmacnlpclgkaaDoor
open Go Go.Eng Go.Pz

/-! Huffman trees fill their table -/
theorem hcnt_find {w : Nat → Nat} {v j : Nat} : ∀ {n : Nat}, j < hcnt w n v → ∃ i, i < n ∧ w i = v ∧ hcnt w i v = j
  | 0, h => absurd h (Nat.not_lt_zero _)
  | n + 1, h => by
    by_cases h1 : j < hcnt w n v
    · obtain ⟨i, h2, h3⟩ := hcnt_find h1
      exact ⟨i, by omega, h3⟩
    · rw [hcnt] at h
      by_cases h2 : w n = v
      · rw [if_pos h2] at h; exact ⟨n, by omega, h2, by omega⟩
      · rw [if_neg h2] at h; omega
theorem hbase_find {w : Nat → Nat} {n p : Nat} : ∀ {k : Nat}, p < hbase w n k → ∃ v, v < k ∧ hbase w n v ≤ p ∧ p < hbase w n (v + 1)
  | 0, h => by rw [hbase_zero] at h; omega
  | k + 1, h => by
    by_cases h1 : p < hbase w n k
    · obtain ⟨v, h2, h3⟩ := hbase_find h1
      exact ⟨v, by omega, h3⟩
    · exact ⟨k, by omega, by omega, h⟩
/-- The room of number i. -/
def InRoom (w : Nat → Nat) (n i p : Nat) : Prop := w i ≠ 0 ∧ hplace w n i ≤ p ∧ p < hplace w n i + 2 ^ (w i - 1)
theorem room_of {w : Nat → Nat} {n p k : Nat} (h : p < hbase w n k) : ∃ i, i < n ∧ w i ≤ k ∧ InRoom w n i p := by
  obtain ⟨v, h1, h2, h3⟩ := hbase_find h
  rw [hbase_succ] at h3
  have hp := Nat.two_pow_pos v
  have h4 : (p - hbase w n v) / 2 ^ v < hcnt w n (v + 1) := (Nat.div_lt_iff_lt_mul hp).2 (by omega)
  obtain ⟨i, h5, h6, h7⟩ := hcnt_find h4
  refine ⟨i, h5, by omega, by omega, ?_⟩
  unfold hplace
  rw [h6, Nat.add_sub_cancel, h7]
  have h8 := Nat.div_add_mod (p - hbase w n v) (2 ^ v)
  have h9 := Nat.mod_lt (p - hbase w n v) hp
  rw [Nat.mul_comm] at h8
  omega
theorem room_one {w : Nat → Nat} {n i j p : Nat} (hi : i < n) (hj : j < n) (h1 : InRoom w n i p) (h2 : InRoom w n j p) : i = j := by
  have key : ∀ {i j : Nat}, i < n → j < n → InRoom w n i p → InRoom w n j p → ¬ i < j := by
    intro i j hi hj ⟨a1, a2, a3⟩ ⟨b1, b2, b3⟩ hlt
    rcases Nat.lt_trichotomy (w i) (w j) with h | h | h
    · have e1 := hplace_le w hi a1 (Nat.le_refl (w i))
      have e2 := hbase_mono w (k := w i) (k' := w j - 1) (by omega) n
      unfold hplace at b2
      omega
    · have e1 := hcnt_mono w (w i) (i := i + 1) j hlt
      rw [hcnt, if_pos rfl] at e1
      unfold hplace at a3 b2
      rw [← h] at b2
      have e2 : (hcnt w i (w i) + 1) * 2 ^ (w i - 1) ≤ hcnt w j (w i) * 2 ^ (w i - 1) := Nat.mul_le_mul_right _ e1
      rw [Nat.add_mul, Nat.one_mul] at e2
      omega
    · have e1 := hplace_le w hj b1 (Nat.le_refl (w j))
      have e2 := hbase_mono w (k := w j) (k' := w i - 1) (by omega) n
      unfold hplace at a2
      omega
  rcases Nat.lt_trichotomy i j with h | h | h
  · exact absurd h (key hi hj h1 h2)
  · exact h
  · exact absurd h (key hj hi h2 h1)
theorem hufTab_room {w : Nat → Nat} {n tb p i : Nat} {old : Nat → Nat} (hi : i < n) (h : InRoom w n i p) : ∀ m, i < m → m ≤ n → hufTab w n tb old m p = i * 256 + (tb + 1 - w i)
  | 0, h1, _ => absurd h1 (Nat.not_lt_zero _)
  | m + 1, h1, h2 => by
    rw [hufTab]
    by_cases he : i = m
    · subst he
      rw [if_neg h.1]
      exact if_pos h.2
    · have ih := hufTab_room (tb := tb) (old := old) hi h m (by omega) (by omega)
      by_cases h0 : w m = 0
      · rw [if_pos h0]; exact ih
      · rw [if_neg h0]
        exact (if_neg fun h3 => he (room_one hi (by omega) h ⟨h0, h3⟩)).trans ih
theorem hufTab_is {w : Nat → Nat} {n tb p : Nat} {old : Nat → Nat} (hs : hbase w n tb = 2 ^ tb) (hp : p < 2 ^ tb) : ∃ i, i < n ∧ w i ≤ tb ∧ InRoom w n i p ∧ hufTab w n tb old n p = i * 256 + (tb + 1 - w i) := by
  obtain ⟨i, h1, h2, h3⟩ := room_of (w := w) (n := n) (k := tb) (by rw [hs]; exact hp)
  exact ⟨i, h1, h2, h3, hufTab_room h1 h3 n h1 (Nat.le_refl _)⟩

/-! Streams of literals -/
section
variable (ht : Nat → Nat) (hb : Nat) (d : Nat → Nat)
/-- The entry at a place. -/
def hent (a : Nat) : Nat := ht (bitsAt d (a - hb) hb)
/-- The place behind i symbols. -/
def hpl (a : Nat) : Nat → Nat
  | 0 => a
  | i + 1 => hpl a i - hent ht hb d (hpl a i) % 256
/-- There are bits enough for the first K symbols. -/
def hok (st a K : Nat) : Prop := ∀ i, i < K → 8 * st + hb ≤ hpl ht hb d a i
instance (st a K : Nat) : Decidable (hok ht hb d st a K) := by unfold hok; infer_instance
/-- The symbol with the number i. -/
def hsy (a i : Nat) : Nat := hent ht hb d (hpl ht hb d a i) / 256
/-- Where a stream begins whose last byte is o. -/
def rvA (o : Nat) : Nat := 8 * o + Nat.log2 (d o)
end

/-- One stream. -/
def lit1 (ht : Nat → Nat) (hb : Nat) (d : Nat → Nat) (off cs K : Nat) : Option (Nat → Nat) :=
  if d (off + cs - 1) = 0 then none
  else if hok ht hb d (off - 2) (rvA d (off + cs - 1)) K then some (hsy ht hb d (rvA d (off + cs - 1)))
  else none
/-- Four streams, at their last bytes. -/
def lit4o (ht : Nat → Nat) (hb : Nat) (d : Nat → Nat) (o0 o1 o2 o3 o4 K : Nat) : Option (Nat → Nat) :=
  if d o1 = 0 ∨ d o2 = 0 ∨ d o3 = 0 ∨ d o4 = 0 then none
  else if hok ht hb d (o0 - 1) (rvA d o1) ((K + 3) / 4) ∧ hok ht hb d (o1 - 1) (rvA d o2) ((K + 3) / 4) ∧ hok ht hb d (o2 - 1) (rvA d o3) ((K + 3) / 4) ∧ hok ht hb d (o3 - 1) (rvA d o4) (K - (K + 3) / 4 * 3) then
    some fun i => if i < (K + 3) / 4 then hsy ht hb d (rvA d o1) i
      else if i < (K + 3) / 4 + (K + 3) / 4 then hsy ht hb d (rvA d o2) (i - (K + 3) / 4)
      else if i < (K + 3) / 4 + (K + 3) / 4 + (K + 3) / 4 then hsy ht hb d (rvA d o3) (i - ((K + 3) / 4 + (K + 3) / 4))
      else hsy ht hb d (rvA d o4) (i - ((K + 3) / 4 + (K + 3) / 4 + (K + 3) / 4))
  else none
def lit4 (ht : Nat → Nat) (hb : Nat) (d : Nat → Nat) (n off tss K : Nat) : Option (Nat → Nat) :=
  if n ≤ off + 5 then none
  else if tss < 6 then none
  else if K < (K + 3) / 4 * 3 then none
  else
    let s1 := d off + d (off + 1) * 256
    let s2 := d (off + 2) + d (off + 3) * 256
    let s3 := d (off + 4) + d (off + 5) * 256
    if tss - 6 < s1 + s2 + s3 then none
    else lit4o ht hb d (off + 5) (off + 5 + s1) (off + 5 + s1 + s2) (off + 5 + s1 + s2 + s3) (off + 5 + s1 + s2 + s3 + (tss - 6 - (s1 + s2 + s3))) K

/-! What compressed blocks keep -/
/-- A state of a table of numbers: what its number begins with, how many bits more this has, how many bits the next state has, from where on. -/
structure SCell where
  base : Nat
  more : Nat
  bits : Nat
  next : Nat
structure STab where
  log : Nat
  cell : Nat → SCell
structure CE where
  r1 : Nat
  r2 : Nat
  r3 : Nat
  hb : Nat
  ht : Nat → Nat
  t0 : Option STab
  t1 : Option STab
  t2 : Option STab
def CE.zero : CE := ⟨0, 0, 0, 0, fun _ => 0, none, none, none⟩
/-- .. at a frame's begin. -/
def CE.ini (e : CE) : CE := ⟨1, 4, 8, 0, e.ht, none, none, none⟩

/-! Literals -/
/-- Raw literals, or one byte again and again: the place behind, how many, which. -/
def litRaw (d : Nat → Nat) (n : Nat) : Option (Nat × Nat × (Nat → Nat)) :=
  let f := d 0 / 4 % 4
  let h := if f = 1 then 2 else if f = 3 then 3 else 1
  if n < h then none
  else
    let K := if f = 1 then d 0 / 16 + d 1 * 16 else if f = 3 then d 0 / 16 + d 1 * 16 + d 2 * 4096 else d 0 / 8
    if 131072 < K then none
    else if d 0 % 4 = 0 then (if n < h + K then none else some (h + K, K, fun i => d (h + i)))
    else if n ≤ h then none else some (h + 1, K, fun _ => d h)
/-- The head of compressed literals: how many bytes it has, how many literals there are, how many bytes these take. -/
def litHd (d : Nat → Nat) : Nat × Nat × Nat :=
  let f := d 0 / 4 % 4
  if f = 3 then (5, d 0 / 16 + d 1 * 16 + d 2 % 64 * 4096, d 2 / 64 + d 3 * 4 + d 4 * 1024)
  else if f = 2 then (4, d 0 / 16 + d 1 * 16 + d 2 % 4 * 4096, d 2 / 4 + d 3 * 64)
  else (3, d 0 / 16 + d 1 % 64 * 16, d 1 / 64 + d 2 * 4)
def litS (e : CE) (d : Nat → Nat) (n off tss K : Nat) : Option (Nat → Nat) := if d 0 / 4 % 4 = 0 then lit1 e.ht e.hb d off tss K else lit4 e.ht e.hb d n off tss K
def litHuf (e : CE) (d : Nat → Nat) (n : Nat) : CE × Option (Nat × Nat × (Nat → Nat)) :=
  let h := litHd d
  if n < h.1 then (e, none)
  else if 131072 < h.2.1 then (e, none)
  else if n < h.1 + h.2.2 then (e, none)
  else if d 0 % 4 = 2 then
    match hufRead d n h.1 e.ht with
    | none => (e, none)
    | some (g, b, q) =>
      let e' := { e with ht := g, hb := b }
      if h.2.2 < q - h.1 then (e', none)
      else (e', (litS e' d n q (h.2.2 - (q - h.1)) h.2.1).map fun L => (h.1 + h.2.2, h.2.1, L))
  else if e.hb = 0 then (e, none)
  else (e, (litS e d n h.1 h.2.2 h.2.1).map fun L => (h.1 + h.2.2, h.2.1, L))
def lits (e : CE) (d : Nat → Nat) (n : Nat) : CE × Option (Nat × Nat × (Nat → Nat)) :=
  if n = 0 then (e, none)
  else if d 0 % 4 < 2 then (e, litRaw d n)
  else litHuf e d n

/-! Tables -/
def litBase : List (Nat × Nat) := [(16, 1), (18, 1), (20, 1), (22, 1), (24, 2), (28, 2), (32, 3), (40, 3), (48, 4), (64, 6), (128, 7), (256, 8), (512, 9), (1024, 10), (2048, 11), (4096, 12), (8192, 13), (16384, 14), (32768, 15), (65536, 16)]
def matBase : List (Nat × Nat) := [(35, 1), (37, 1), (39, 1), (41, 1), (43, 2), (47, 2), (51, 3), (59, 3), (67, 4), (83, 4), (99, 5), (131, 7), (259, 8), (515, 9), (1027, 10), (2051, 11), (4099, 12), (8195, 13), (16387, 14), (32771, 15), (65539, 16)]
/-- What a symbol's number begins with, and how many bits more it has (an offset's number is less by 3 from 4 on). -/
def sqBase (kind s : Nat) : Nat × Nat :=
  if kind = 0 then (if s < 16 then (s, 0) else litBase.getD (s - 16) (0, 0))
  else if kind = 1 then (2 ^ s - (if 2 ≤ s then 3 else 0), s)
  else (if s < 32 then (s + 3, 0) else matBase.getD (s - 32) (0, 0))
def sqTop (kind : Nat) : Nat := if kind = 0 then 35 else if kind = 1 then 31 else 52
def sqLog (kind : Nat) : Nat := if kind = 1 then 8 else 9
def sqCell (kind s b x : Nat) : SCell := ⟨(sqBase kind s).1, (sqBase kind s).2, b, x⟩
def preL0 : List (Nat × Nat × Nat × Nat) := [(0, 0, 4, 0), (0, 0, 4, 16), (1, 0, 5, 32), (3, 0, 5, 0), (4, 0, 5, 0), (6, 0, 5, 0), (7, 0, 5, 0), (9, 0, 5, 0), (10, 0, 5, 0), (12, 0, 5, 0), (14, 0, 6, 0), (16, 1, 5, 0), (20, 1, 5, 0), (22, 1, 5, 0), (28, 2, 5, 0), (32, 3, 5, 0), (48, 4, 5, 0), (64, 6, 5, 32), (128, 7, 5, 0), (256, 8, 6, 0), (1024, 10, 6, 0), (4096, 12, 6, 0), (0, 0, 4, 32), (1, 0, 4, 0), (2, 0, 5, 0), (4, 0, 5, 32), (5, 0, 5, 0), (7, 0, 5, 32), (8, 0, 5, 0), (10, 0, 5, 32), (11, 0, 5, 0), (13, 0, 6, 0), (16, 1, 5, 32), (18, 1, 5, 0), (22, 1, 5, 32), (24, 2, 5, 0), (32, 3, 5, 32), (40, 3, 5, 0), (64, 6, 4, 0), (64, 6, 4, 16), (128, 7, 5, 32), (512, 9, 6, 0), (2048, 11, 6, 0), (0, 0, 4, 48), (1, 0, 4, 16), (2, 0, 5, 32), (3, 0, 5, 32), (5, 0, 5, 32), (6, 0, 5, 32), (8, 0, 5, 32), (9, 0, 5, 32), (11, 0, 5, 32), (12, 0, 5, 32), (15, 0, 6, 0), (18, 1, 5, 32), (20, 1, 5, 32), (24, 2, 5, 32), (28, 2, 5, 32), (40, 3, 5, 32), (48, 4, 5, 32), (65536, 16, 6, 0), (32768, 15, 6, 0), (16384, 14, 6, 0), (8192, 13, 6, 0)]
def preL1 : List (Nat × Nat × Nat × Nat) := [(1, 0, 5, 0), (61, 6, 4, 0), (509, 9, 5, 0), (32765, 15, 5, 0), (2097149, 21, 5, 0), (5, 3, 5, 0), (125, 7, 4, 0), (4093, 12, 5, 0), (262141, 18, 5, 0), (8388605, 23, 5, 0), (29, 5, 5, 0), (253, 8, 4, 0), (16381, 14, 5, 0), (1048573, 20, 5, 0), (1, 2, 5, 0), (125, 7, 4, 16), (2045, 11, 5, 0), (131069, 17, 5, 0), (4194301, 22, 5, 0), (13, 4, 5, 0), (253, 8, 4, 16), (8189, 13, 5, 0), (524285, 19, 5, 0), (2, 1, 5, 0), (61, 6, 4, 16), (1021, 10, 5, 0), (65533, 16, 5, 0), (268435453, 28, 5, 0), (134217725, 27, 5, 0), (67108861, 26, 5, 0), (33554429, 25, 5, 0), (16777213, 24, 5, 0)]
def preL2 : List (Nat × Nat × Nat × Nat) := [(3, 0, 6, 0), (4, 0, 4, 0), (5, 0, 5, 32), (6, 0, 5, 0), (8, 0, 5, 0), (9, 0, 5, 0), (11, 0, 5, 0), (13, 0, 6, 0), (16, 0, 6, 0), (19, 0, 6, 0), (22, 0, 6, 0), (25, 0, 6, 0), (28, 0, 6, 0), (31, 0, 6, 0), (34, 0, 6, 0), (37, 1, 6, 0), (41, 1, 6, 0), (47, 2, 6, 0), (59, 3, 6, 0), (83, 4, 6, 0), (131, 7, 6, 0), (515, 9, 6, 0), (4, 0, 4, 16), (5, 0, 4, 0), (6, 0, 5, 32), (7, 0, 5, 0), (9, 0, 5, 32), (10, 0, 5, 0), (12, 0, 6, 0), (15, 0, 6, 0), (18, 0, 6, 0), (21, 0, 6, 0), (24, 0, 6, 0), (27, 0, 6, 0), (30, 0, 6, 0), (33, 0, 6, 0), (35, 1, 6, 0), (39, 1, 6, 0), (43, 2, 6, 0), (51, 3, 6, 0), (67, 4, 6, 0), (99, 5, 6, 0), (259, 8, 6, 0), (4, 0, 4, 32), (4, 0, 4, 48), (5, 0, 4, 16), (7, 0, 5, 32), (8, 0, 5, 32), (10, 0, 5, 32), (11, 0, 5, 32), (14, 0, 6, 0), (17, 0, 6, 0), (20, 0, 6, 0), (23, 0, 6, 0), (26, 0, 6, 0), (29, 0, 6, 0), (32, 0, 6, 0), (65539, 16, 6, 0), (32771, 15, 6, 0), (16387, 14, 6, 0), (8195, 13, 6, 0), (4099, 12, 6, 0), (2051, 11, 6, 0), (1027, 10, 6, 0)]
def preL (kind : Nat) : List (Nat × Nat × Nat × Nat) := if kind = 0 then preL0 else if kind = 1 then preL1 else preL2
def cellOf (t : Nat × Nat × Nat × Nat) : SCell := ⟨t.1, t.2.1, t.2.2.1, t.2.2.2⟩
/-- The table of a kind that need not be told. -/
def preTab (kind : Nat) : STab := ⟨if kind = 1 then 5 else 6, fun p => cellOf ((preL kind).getD p (0, 0, 0, 0))⟩
def rleTab (kind s : Nat) : STab := ⟨0, fun _ => sqCell kind s 0 0⟩
def fseTab (kind log : Nat) (sh : Nat → Int) : STab := ⟨log, fun p => sqCell kind (symTab sh (sqTop kind + 1) (2 ^ log) p) (cellBits sh (sqTop kind + 1) log p) (cellBase sh (sqTop kind + 1) log p)⟩
/-- A table by its mode, and the place behind. -/
def setTab (t : Option STab) (kind mode : Nat) (d : Nat → Nat) (n off : Nat) : Option (STab × Nat) :=
  if mode = 0 then some (preTab kind, off)
  else if mode = 1 then
    if n ≤ off then none
    else if sqTop kind < d off then none
    else some (rleTab kind (d off), off + 1)
  else if mode = 2 then (probs true d n (sqLog kind) (sqTop kind) (8 * off)).map fun r => (fseTab kind r.1 r.2.1, (r.2.2.2 + 7) / 8)
  else t.map fun t => (t, off)
/-- The head of the sequences: how many there are, the place behind. -/
def sqHd (d : Nat → Nat) (n off : Nat) : Option (Nat × Nat) :=
  if n ≤ off then none
  else if d off < 128 then some (d off, off + 1)
  else if d off < 255 then (if n ≤ off + 1 then none else some ((d off - 128) * 256 + d (off + 1), off + 2))
  else if n ≤ off + 2 then none else some (d (off + 1) + d (off + 2) * 256 + 32512, off + 3)
/-- The three tables. -/
def sqTabs (e : CE) (d : Nat → Nat) (n off md : Nat) : CE × Option Nat :=
  match setTab e.t0 0 (md / 64 % 4) d n off with
  | none => (e, none)
  | some (t0, o1) =>
    match setTab e.t1 1 (md / 16 % 4) d n o1 with
    | none => ({ e with t0 := some t0 }, none)
    | some (t1, o2) =>
      match setTab e.t2 2 (md / 4 % 4) d n o2 with
      | none => ({ e with t0 := some t0, t1 := some t1 }, none)
      | some (t2, o3) => ({ e with t0 := some t0, t1 := some t1, t2 := some t2 }, some o3)
/-- The head and the tables: how many sequences there are, the place behind. -/
def sqInit (e : CE) (d : Nat → Nat) (n off : Nat) : CE × Option (Nat × Nat) :=
  match sqHd d n off with
  | none => (e, none)
  | some (c, o) =>
    if d off = 0 then (e, some (0, o))
    else if n ≤ o then (e, none)
    else if d o % 4 ≠ 0 then (e, none)
    else
      let r := sqTabs e d n (o + 1) (d o)
      (r.1, r.2.map fun q => (c, q))

/-! Sequences -/
/-- A text with so many bytes more: those of a match that lies o bytes back, in the text or ahead of it. -/
def mcp (S : Nat → Nat) (bl : Nat) (L : Nat → Nat) (wl o : Nat) : Nat → Nat → Nat
  | 0 => S
  | k + 1 => updN (mcp S bl L wl o k) (bl + k) (if bl + k < o then L (wl + (bl + k) - o) else mcp S bl L wl o k (bl + k - o))
/-- A text with so many bytes T behind the first bl. -/
def apD (S : Nat → Nat) (bl k : Nat) (T : Nat → Nat) : Nat → Nat := fun i => if bl ≤ i ∧ i < bl + k then T (i - bl) else S i
/-- How far back, by a number and the last three; these. -/
def repO (more v ll r1 r2 r3 : Nat) : Nat × Nat × Nat × Nat :=
  if 1 < more then (v, v, r1, r2)
  else
    let o := v + if ll = 0 then 1 else 0
    if o = 1 then (r1, r1, r2, r3)
    else if o = 2 then (r2, r2, r1, r3)
    else if o = 3 then (r3, r3, r1, r2)
    else if o = 4 then ((r1 + 4294967295) % 4294967296, (r1 + 4294967295) % 4294967296, r1, r2)
    else (o, r1, r2, r3)
structure XS where
  r1 : Nat
  r2 : Nat
  r3 : Nat
  S : Nat → Nat
  bl : Nat
  lo : Nat
  a : Nat
  s0 : Nat
  s1 : Nat
  s2 : Nat
section
variable (T0 T1 T2 : STab) (d : Nat → Nat) (st : Nat) (L : Nat → Nat) (wl : Nat) (LT : Nat → Nat) (ll : Nat)
/-- What a sequence says is done: literals, a match. -/
def sqDo (x : XS) (li o ml : Nat) : XS × Bool :=
  if ll - x.lo < li then (x, false)
  else
    let x1 : XS := { x with S := apD x.S x.bl li fun i => LT (x.lo + i), bl := x.bl + li, lo := x.lo + li }
    if ml = 0 then (x1, true)
    else if o = 0 then (x1, false)
    else if x1.bl < o ∧ wl < o - x1.bl then (x1, false)
    else ({ x1 with S := mcp x1.S x1.bl L wl o ml, bl := x1.bl + ml }, true)
/-- A sequence. -/
def sqStep (last : Bool) (x : XS) : XS × Bool :=
  if 131072 < x.bl + (ll - x.lo) then (x, false)
  else
    let c0 := T0.cell x.s0
    let c1 := T1.cell x.s1
    let c2 := T2.cell x.s2
    if ¬ rvC st x.a c1.more then (x, false)
    else if ¬ rvC st (x.a - c1.more) c2.more then (x, false)
    else if ¬ rvC st (x.a - c1.more - c2.more) c0.more then (x, false)
    else
      let v1 := c1.base + rvV d x.a c1.more
      let v2 := c2.base + rvV d (x.a - c1.more) c2.more
      let v0 := c0.base + rvV d (x.a - c1.more - c2.more) c0.more
      let r := repO c1.more v1 v0 x.r1 x.r2 x.r3
      let a := x.a - c1.more - c2.more - c0.more
      let x1 : XS := { x with r1 := r.2.1, r2 := r.2.2.1, r3 := r.2.2.2, a := a }
      if last then sqDo L wl LT ll x1 v0 r.1 v2
      else if ¬ rvC st a c0.bits then (x1, false)
      else if ¬ rvC st (a - c0.bits) c2.bits then (x1, false)
      else if ¬ rvC st (a - c0.bits - c2.bits) c1.bits then (x1, false)
      else sqDo L wl LT ll { x1 with a := a - c0.bits - c2.bits - c1.bits, s0 := c0.next + rvV d a c0.bits, s2 := c2.next + rvV d (a - c0.bits) c2.bits, s1 := c1.next + rvV d (a - c0.bits - c2.bits) c1.bits } v0 r.1 v2
def sqLoop : Nat → XS → XS × Bool
  | 0, x => (x, true)
  | k + 1, x => if (sqStep T0 T1 T2 d st L wl LT ll (decide (k = 0)) x).2 then sqLoop k (sqStep T0 T1 T2 d st L wl LT ll (decide (k = 0)) x).1 else sqStep T0 T1 T2 d st L wl LT ll (decide (k = 0)) x
end
def STab.none : STab := ⟨0, fun _ => ⟨0, 0, 0, 0⟩⟩
/-- All sequences over literals: the last offsets, the text. -/
def sqExec (e : CE) (d : Nat → Nat) (n off cnt : Nat) (L : Nat → Nat) (wl : Nat) (LT : Nat → Nat) (ll : Nat) (S : Nat → Nat) : XS × Bool :=
  let T0 := e.t0.getD STab.none
  let T1 := e.t1.getD STab.none
  let T2 := e.t2.getD STab.none
  let a := rvA d (n - 1)
  let x : XS := ⟨e.r1, e.r2, e.r3, S, 0, 0, a - T0.log - T1.log - T2.log, rvV d a T0.log, rvV d (a - T0.log) T1.log, rvV d (a - T0.log - T1.log) T2.log⟩
  if d (n - 1) = 0 then (x, false)
  else if ¬ rvC off a T0.log then (x, false)
  else if ¬ rvC off (a - T0.log) T1.log then (x, false)
  else if ¬ rvC off (a - T0.log - T1.log) T2.log then (x, false)
  else
    let r := sqLoop T0 T1 T2 d off L wl LT ll cnt x
    if r.2 = false then r
    else ({ r.1 with S := apD r.1.S r.1.bl (ll - r.1.lo) fun i => LT (r.1.lo + i), bl := r.1.bl + (ll - r.1.lo) }, decide (r.1.a % 8 = 0))
end Go.Proofs.YtogmacnlpclgkaaDoor

/-! ENGINE L: the walk by itself, up to the next block. -/
namespace Go.Eng
open Go Go.Proofs.YtogmacnlpclgkaaDoor

/-- A new block among those that are not wanted. -/
theorem pU (u : Nat × Blk) (a s j : Mem) : (u :: (a ++ (s ++ j))).Perm (a ++ (s ++ (u :: j))) :=
  (List.perm_middle (l₁ := a) (a := u) (l₂ := s ++ j)).symm.trans (List.Perm.append_left a List.perm_middle.symm)
theorem Kp.more {a b c : Mem} {u : Nat × Blk} (h : Kp a (b ++ c)) : Kp a (b ++ u :: c) :=
  h.trans (Kp.sub fun _ hp => (List.mem_append.1 hp).elim (fun h => List.mem_append.2 (.inl h)) fun h => List.mem_append.2 (.inr (List.mem_cons_of_mem _ h)))

/-- As 'go', but it stops at a block. -/
theorem goB (A : Prop) {B : Prop} (k : B) (h : Keep B → A := by
    intro hk
    repeat ((try refine ro_batch (by conv => lhs; whnf) ?_); first
      | (apply ro_nil)
      | (apply ro_loadArr; exact rfl; exact rfl; (first | with_reducible exact .here | with_reducible exact .there (.here) | with_reducible exact .there (.there (.here)) | with_reducible exact .there (.there (.there (.here))) | with_reducible exact .there (.there (.there (.there (.here)))) | with_reducible exact .there (.there (.there (.there (.there (.here))))) | with_reducible exact .there (.there (.there (.there (.there (.there (.here)))))) | with_reducible exact .there (.there (.there (.there (.there (.there (.there (.here)))))))); omega; exact rfl)
      | (apply ro_loadArrG; exact rfl; exact rfl; (with_reducible assumption); omega; exact rfl)
      | (apply ro_loadV; exact rfl; exact rfl; (with_reducible assumption); omega; exact rfl)
      | (apply ro_load; exact rfl; exact rfl; (first | exact .here | exact .there (.here) | exact .there (.there (.here)) | exact .there (.there (.there (.here))) | exact .there (.there (.there (.there (.here)))) | exact .there (.there (.there (.there (.there (.here))))) | exact .there (.there (.there (.there (.there (.there (.here)))))) | exact .there (.there (.there (.there (.there (.there (.there (.here)))))))); (first | exact rfl | exact blt_of (by assumption) | exact blt_of (by omega)); (first | with_reducible assumption | (conv => lhs; whnf; try dsimp only [RS.wRv, RS.wBuf, RS.wOff, RS.wRem, RS.wSaw, RS.wWin, RS.wRep, RS.wHuf, RS.wCb, RS.wLit, RS.wFs, RS.wScr, RS.wChk, RS.wSeq])); exact rfl)
      | (apply ro_storeArr; exact rfl; exact rfl; (first | with_reducible rfl | exact lit_cast _); exact rfl; (first | with_reducible exact .here | with_reducible exact .there (.here) | with_reducible exact .there (.there (.here)) | with_reducible exact .there (.there (.there (.here))) | with_reducible exact .there (.there (.there (.there (.here)))) | with_reducible exact .there (.there (.there (.there (.there (.here))))) | with_reducible exact .there (.there (.there (.there (.there (.there (.here)))))) | with_reducible exact .there (.there (.there (.there (.there (.there (.there (.here)))))))); omega; assumption)
      | (apply ro_store; exact rfl; (first | with_reducible assumption | conv => lhs; whnf); exact rfl; (first | exact rfl | with_reducible assumption); (first | exact .here | exact .there (.here) | exact .there (.there (.here)) | exact .there (.there (.there (.here))) | exact .there (.there (.there (.there (.here)))) | exact .there (.there (.there (.there (.there (.here))))) | exact .there (.there (.there (.there (.there (.there (.here)))))) | exact .there (.there (.there (.there (.there (.there (.there (.here)))))))); (first | exact rfl | exact blt_of (by assumption) | exact blt_of (by omega)); (first | exact rfl | assumption); assumption)
      | (apply ro_addM; exact rfl; exact rfl; (first | with_reducible rfl | exact lit_cast _); (first | with_reducible rfl | exact lit_cast _); (first | exact lim8 (by omega) | exact lim32 (by omega) | exact limi64 (by omega) | exact lim64 (by omega) | exact lim16 (by omega) | exact limi16 (by omega) | exact limi32 (by omega)); exact rfl)
      | (apply ro_subM; exact rfl; exact rfl; (first | with_reducible rfl | exact lit_cast _); (first | with_reducible rfl | exact lit_cast _); omega; (first | exact lim8 (by omega) | exact lim32 (by omega) | exact limi64 (by omega) | exact lim64 (by omega) | exact lim16 (by omega) | exact limi16 (by omega) | exact limi32 (by omega)); exact rfl)
      | (apply ro_convM; exact rfl; (first | with_reducible rfl | exact lit_cast _); exact rfl; exact rfl; (first | exact lim8 (by omega) | exact lim32 (by omega) | exact limi64 (by omega) | exact lim64 (by omega) | exact lim16 (by omega) | exact limi16 (by omega) | exact limi32 (by omega)); exact rfl)
      | (apply ro_conv8; exact rfl; (first | with_reducible rfl | exact lit_cast _); exact rfl; exact rfl; exact rfl)
      | (apply ro_convU; exact rfl; (first | with_reducible rfl | exact lit_cast _); exact rfl; exact rfl; exact rfl; exact rfl)
      | (apply ro_ix1; exact rfl; exact rfl; (first | with_reducible rfl | exact lit_cast _); exact rfl; exact rfl; omega; exact rfl)
      | (apply ro_ixA1; exact rfl; exact rfl; (first | with_reducible rfl | exact lit_cast _); exact rfl; exact rfl; omega; exact rfl)
      | (apply ro_ixM; exact rfl; exact rfl; (first | with_reducible rfl | exact lit_cast _); exact rfl; exact rfl; omega; exact rfl)
      | (apply ro_ixAM; exact rfl; exact rfl; (first | with_reducible rfl | exact lit_cast _); exact rfl; exact rfl; omega; exact rfl)
      | (apply ro_slB; exact rfl; exact rfl; exact rfl; exact rfl; (first | with_reducible rfl | exact lit_cast _); omega; exact rfl)
      | (apply ro_slA; exact rfl; exact rfl; exact rfl; exact rfl; exact rfl; (first | with_reducible rfl | exact lit_cast _); (first | with_reducible rfl | exact lit_cast _); omega; omega; omega; exact rfl)
      | (apply ro_arrB; exact rfl; exact rfl; exact rfl; exact rfl; (first | with_reducible rfl | exact lit_cast _); omega; exact rfl)
      | (apply ro_arrA; exact rfl; exact rfl; exact rfl; exact rfl; exact rfl; (first | with_reducible rfl | exact lit_cast _); (first | with_reducible rfl | exact lit_cast _); omega; omega; omega; exact rfl)
      | (apply ro_pick (b := true); exact rfl; (first | with_reducible assumption | conv => lhs; whnf); exact rfl)
      | (apply ro_pick (b := false); exact rfl; (first | with_reducible assumption | conv => lhs; whnf); exact rfl)
      | (apply ro_wantG; exact rfl)
      | (apply ro_unwantG; exact rfl; exact rfl)
      | (apply ro_eqIntT; exact rfl; exact rfl; (first | with_reducible rfl | decide); exact rfl)
      | (apply ro_eqIntF; exact rfl; exact rfl; decide; exact rfl)
      | (apply ro_eqBoolT; exact rfl; exact rfl; exact rfl; (first | with_reducible rfl | decide); exact rfl)
      | (apply ro_eqInt; exact rfl; exact rfl; exact rfl)
      | (apply ro_neInt; exact rfl; exact rfl; exact rfl)
      | (apply ro_eqNil; exact rfl; exact rfl; exact rfl; exact rfl)
      | (apply ro_neNil0; exact rfl; exact rfl; exact rfl; exact rfl)
      | (apply ro_neNil1; exact rfl; exact rfl; exact rfl; exact rfl)
      | (apply ro_andZ; exact rfl; exact rfl; (first | with_reducible rfl | exact lit_cast _); (first | with_reducible rfl | exact lit_cast _); (first | exact lim8 (by omega) | exact lim32 (by omega) | exact limi64 (by omega) | exact lim64 (by omega) | exact lim16 (by omega) | exact limi16 (by omega) | exact limi32 (by omega)); (first | exact lim8 (by omega) | exact lim32 (by omega) | exact limi64 (by omega) | exact lim64 (by omega) | exact lim16 (by omega) | exact limi16 (by omega) | exact limi32 (by omega)); (first | exact and_1 _ | exact and_3 _ | exact and_7 _ | exact and_15 _ | exact and_31 _ | exact and_63 _ | exact and_255 _ | exact and_4095 _ | exact and_24 _ | exact rfl); exact rfl)
      | (apply ro_shrM; exact rfl; exact rfl; (first | with_reducible rfl | exact lit_cast _); (first | with_reducible rfl | exact lit_cast _); (first | decide | (simp only [IntKind.bits]; omega)); exact rfl)
      | (apply ro_shlM; exact rfl; exact rfl; (first | with_reducible rfl | exact lit_cast _); (first | with_reducible rfl | exact lit_cast _); (first | decide | (simp only [IntKind.bits]; omega)); (first | exact lim8 (by omega) | exact lim32 (by omega) | exact limi64 (by omega) | exact lim64 (by omega) | exact lim16 (by omega) | exact limi16 (by omega) | exact limi32 (by omega)); exact rfl)
      | (apply ro_mulM; exact rfl; exact rfl; (first | with_reducible rfl | exact lit_cast _); (first | with_reducible rfl | exact lit_cast _); (first | exact lim8 (by omega) | exact lim32 (by omega) | exact limi64 (by omega) | exact lim64 (by omega) | exact lim16 (by omega) | exact limi16 (by omega) | exact limi32 (by omega)); exact rfl)
      | (apply ro_quoM; exact rfl; exact rfl; (first | with_reducible rfl | exact lit_cast _); (first | with_reducible rfl | exact lit_cast _); omega; (first | exact lim8 (by omega) | exact lim32 (by omega) | exact limi64 (by omega) | exact lim64 (by omega) | exact lim16 (by omega) | exact limi16 (by omega) | exact limi32 (by omega)); exact rfl)
      | (apply ro_remM; exact rfl; exact rfl; (first | with_reducible rfl | exact lit_cast _); (first | with_reducible rfl | exact lit_cast _); omega; exact rfl)
      | (apply ro_add; exact rfl; exact rfl; (first | exact IntWalk.i64_in _ (by omega) | exact IntWalk.u32_in _ (by omega) | exact IntWalk.u64_in _ (by omega) | exact IntWalk.u8_in _ (by omega) | exact IntWalk.u16_in _ (by omega)); exact rfl)
      | (apply ro_sub; exact rfl; exact rfl; (first | exact IntWalk.i64_in _ (by omega) | exact IntWalk.u32_in _ (by omega) | exact IntWalk.u64_in _ (by omega) | exact IntWalk.u8_in _ (by omega) | exact IntWalk.u16_in _ (by omega)); exact rfl)
      | (apply ro_conv; exact rfl; exact rfl; exact rfl; (first | exact IntWalk.i64_in _ (by omega) | exact IntWalk.u32_in _ (by omega) | exact IntWalk.u64_in _ (by omega) | exact IntWalk.u8_in _ (by omega) | exact IntWalk.u16_in _ (by omega)); exact rfl)
      | (apply ro_notT; exact rfl; exact rfl)
      | (apply ro_notF; exact rfl; exact rfl)
      | (apply ro_notP; exact rfl; exact rfl)
      | (apply ro_not; exact rfl; exact rfl)
      | (apply ro_move; (first | with_reducible assumption | conv => lhs; whnf); exact rfl)
      | (apply ro_assign; (first | with_reducible assumption | conv => lhs; whnf); exact rfl)
      | (apply ro_makeInterface; (first | with_reducible assumption | conv => lhs; whnf); exact rfl; exact rfl)
      | (apply ro_makeMethod; (first | with_reducible assumption | conv => lhs; whnf); exact rfl)
      | (apply ro_extract; exact rfl; exact rfl; exact rfl)
      | (apply ro_loadG; exact rfl; exact rfl; (first | exact .here | exact .there (.here) | exact .there (.there (.here)) | exact .there (.there (.there (.here))) | exact .there (.there (.there (.there (.here)))) | exact .there (.there (.there (.there (.there (.here))))) | exact .there (.there (.there (.there (.there (.there (.here)))))) | exact .there (.there (.there (.there (.there (.there (.there (.here)))))))); (first | exact rfl | exact blt_of (by assumption) | exact blt_of (by omega)); (first | with_reducible assumption | conv => lhs; whnf); exact rfl)
      | refine J_seq ?_
      | refine J_region (qs := qsT) mixed_ok (by kernel_rfl) ?_
      | refine J_skip ?_
      | refine J_label ?_
      | refine J_condT' rfl (by with_reducible rfl) ?_
      | refine J_condF' rfl (by with_reducible rfl) ?_)
    try refine ro_batch (by conv => lhs; whnf) ?_
    exact Keep.out hk) : A := h ⟨k⟩

end Go.Eng

/-! COMPRESSED BLOCKS 8: raw literals, one byte again and again. -/
namespace Go.Proofs.YtogmacnlpclgkaaDoor
open Go Go.Eng Go.Pz
attribute [local irreducible] RO J Trip Quiet
set_option maxRecDepth 20000
variable {G : Mem} {d : Nat → Nat}

/-- What readers of literals give: the place behind, the literals in a block. -/
def LitR (S : Sent G) (rb : Nat) (x : Int) (s : RS) (sm : Mem) (R : Option (Nat × Nat × (Nat → Nat))) (r : Value) (m : Mem) : Prop :=
  match R with
  | some (o, K, L) => ∃ v' sm' jk', r = .tuple #[.int .i64 (o : Nat), v', .nilIface] ∧ LtM v' K L sm' ∧ Kp sm (sm' ++ jk') ∧ m = (rb, rdB x s) :: (sm' ++ jk')
  | none => ∃ e sm', r = .tuple #[.int .i64 0, .slice none 0 0, e] ∧ ErrB S e ∧ Kp sm sm' ∧ m = (rb, rdB x s) :: sm'

/-- Behind the size of raw literals. -/
def litRawK (d : Nat → Nat) (n o K : Nat) : Option (Nat × Nat × (Nat → Nat)) :=
  if 131072 < K then none
  else if d 0 % 4 = 0 then (if n < o + K then none else some (o + K, K, fun i => d (o + i)))
  else if n ≤ o then none else some (o + 1, K, fun _ => d o)

structure RleS where
  i : Nat
  oa : Option Addr
  cp : Nat
  sm : Mem
  jk : Mem

set_option maxHeartbeats 2000000 in
theorem rawLit_t (S : Sent G) (rb : Nat) (x : Int) (s : RS) (da : Option Addr) (n cp : Nat) (hd : ∀ i, d i < 256) (hv : View G da n cp d) (hn : n ≤ 2 ^ 20) (h1 : 0 < n) (h2 : d 0 % 4 < 2) (va : Option Addr) (vc : Nat) (D : Nat → Nat) (sm : Mem) (hl : LtM (.slice va 0 vc) 0 D sm) :
    Trip Tryd.prog G 63 #[.pointer (some ⟨rb, 0, none⟩), .slice da n cp, .int .i64 (1 : Nat), .int .u8 (d 0 : Nat), .slice va 0 vc] ((rb, rdB x s) :: sm) (LitR S rb x s sm (litRaw d n)) := by
  refine Trip_of Tryd.func63 rfl (by show 5 ≤ _; decide) (args := [.pointer (some ⟨rb, 0, none⟩), .slice da n cp, .int .i64 (1 : Nat), .int .u8 (d 0 : Nat), .slice va 0 vc]) fun c h0 hex => ?_
  obtain ⟨hdr, hhdr⟩ : ∃ hdr, hdr = d 0 := ⟨_, rfl⟩
  have hh := hd 0
  rw [← hhdr] at hh h2 ⊢
  refine goB _ ?_
  refine J_joinE (σ := Nat × Nat) [0, 1, 4, 13] (fun t => [(2, .int .i64 (t.1 : Nat)), (14, .int .i64 (t.2 : Nat))]) (fun _ => (rb, rdB x s) :: sm) (fun t => litRaw d n = litRawK d n t.1 t.2 ∧ t.1 ≤ n ∧ t.1 ≤ 3 ∧ t.2 ≤ 2 ^ 20) ?_ ?_
  · have hL : litRaw d n = if n < (if hdr / 4 % 4 = 1 then 2 else if hdr / 4 % 4 = 3 then 3 else 1) then none else litRawK d n (if hdr / 4 % 4 = 1 then 2 else if hdr / 4 % 4 = 3 then 3 else 1) (if hdr / 4 % 4 = 1 then hdr / 16 + d 1 * 16 else if hdr / 4 % 4 = 3 then hdr / 16 + d 1 * 16 + d 2 * 4096 else hdr / 8) := by rw [hhdr]; rfl
    have hd1 := hd 1
    have hd2 := hd 2
    refine go _ ?_
    refine J_condP rfl (fun f0 => ?_) (fun f0 => ?_)
    · refine go _ ?_
      refine J_condP rfl (fun _ => ?_) (fun h => absurd f0 h)
      refine go _ ?_
      have e : hdr / 4 % 4 = 0 := by omega
      refine ⟨(1, hdr / 8), ⟨by rw [hL, e]; exact if_neg (by simp; omega), by dsimp only; omega, by dsimp only; omega, by dsimp only; omega⟩, joined (.refl _)⟩
    · refine go _ ?_
      refine J_condP rfl (fun f2 => ?_) (fun f2 => ?_)
      · refine go _ ?_
        have e : hdr / 4 % 4 = 2 := by omega
        refine ⟨(1, hdr / 8), ⟨by rw [hL, e]; exact if_neg (by simp; omega), by dsimp only; omega, by dsimp only; omega, by dsimp only; omega⟩, joined (.refl _)⟩
      · refine go _ ?_
        refine J_condP rfl (fun f1 => ?_) (fun f1 => ?_)
        · have e : hdr / 4 % 4 = 1 := by omega
          rw [e] at hL
          simp only [if_true] at hL
          refine go _ ?_
          refine J_condP rfl (fun hs => ?_) (fun hs => ?_)
          · refine go _ ?_
            refine ro_callT (meof_t S rb x s _) ?_
            rintro v m ⟨⟨b', rfl⟩, rfl⟩
            refine go _ ?_
            refine J_ret ?_
            rw [hL, if_pos (by omega)]
            exact ends_retS [10, 11, 12] (post := (rb, rdB x s) :: sm) ⟨_, sm, rfl, .inl ⟨b', rfl⟩, Kp.refl _, rfl⟩
          · obtain ⟨b0, o0, rfl⟩ := hv.some (by omega)
            refine go _ ?_
            refine ⟨(2, hdr / 16 + d 1 * 16), ⟨by rw [hL, if_neg (by omega)], by dsimp only; omega, by dsimp only; omega, by dsimp only; omega⟩, joined (.refl _)⟩
        · have e : hdr / 4 % 4 = 3 := by omega
          have hL : litRaw d n = if n < 3 then none else litRawK d n 3 (hdr / 16 + d 1 * 16 + d 2 * 4096) := by rw [hL, e]; rfl
          have hd2' := hd (1 + 1)
          refine go _ ?_
          refine J_condP rfl (fun f3 => ?_) (fun f3 => absurd f3 (by omega))
          refine go _ ?_
          refine J_condP rfl (fun hs => ?_) (fun hs => ?_)
          · refine go _ ?_
            refine ro_callT (meof_t S rb x s _) ?_
            rintro v m ⟨⟨b', rfl⟩, rfl⟩
            refine go _ ?_
            refine J_ret ?_
            rw [hL, if_pos (by omega)]
            exact ends_retS [10, 11, 12] (post := (rb, rdB x s) :: sm) ⟨_, sm, rfl, .inl ⟨b', rfl⟩, Kp.refl _, rfl⟩
          · obtain ⟨b0, o0, rfl⟩ := hv.some (by omega)
            refine go _ ?_
            refine ⟨(3, hdr / 16 + d 1 * 16 + d 2 * 4096), ⟨by rw [hL, if_neg (by omega)], by dsimp only; omega, by dsimp only; omega, by dsimp only; omega⟩, joined (.refl _)⟩
  · rintro ⟨o, K⟩ f ⟨g1, g2, g3, g4⟩
    dsimp only at g1 g2 g3 g4 ⊢
    rw [g1]
    unfold litRawK
    refine go _ ?_
    refine J_condP rfl (fun hbig => ?_) (fun hsm => ?_)
    · rw [if_pos (by omega)]
      refine go _ ?_
      refine ro_callT (merr_t S rb x s _ _) ?_
      rintro v m ⟨⟨b', rfl⟩, rfl⟩
      refine go _ ?_
      refine J_ret ?_
      exact ends_retS [10, 11, 12] (post := (rb, rdB x s) :: sm) ⟨_, sm, rfl, .inl ⟨b', rfl⟩, Kp.refl _, rfl⟩
    · rw [if_neg (by omega)]
      refine go _ ?_
      refine J_condP rfl (fun hraw => ?_) (fun hrle => ?_)
      · rw [← hhdr, if_pos (by omega)]
        refine go _ ?_
        refine J_condP rfl (fun hb => ?_) (fun hb => ?_)
        · rw [if_pos (by omega)]
          refine go _ ?_
          refine ro_callT (merr_t S rb x s _ _) ?_
          rintro v m ⟨⟨b', rfl⟩, rfl⟩
          refine go _ ?_
          refine J_ret ?_
          exact ends_retS [10, 11, 12] (post := (rb, rdB x s) :: sm) ⟨_, sm, rfl, .inl ⟨b', rfl⟩, Kp.refl _, rfl⟩
        · rw [if_neg (by omega)]
          have hcp := hv.le
          refine go _ ?_
          refine ro_slV o (o + K) hv rfl rfl rfl rfl rfl rfl rfl (by omega) (by omega) rfl ?_
          have hv2 := hv.sub (l := o) (h := o + K) (by omega) (by omega)
          obtain ⟨src, hsrc, hsv⟩ := (View.add (m := (rb, rdB x s) :: sm) hv2).src
          rw [Nat.add_sub_cancel_left] at hsrc hsv ⊢
          refine go _ ?_
          refine ro_appL (fm := [(rb, rdB x s)]) (sm := sm) (jk := []) (s := fun i => d (o + i)) rfl rfl rfl rfl z5 (by decide) rfl rfl hl (by rw [List.append_nil]; exact .refl _) hsrc hsv (by omega) hex rfl ?_
          intro v' sm' jk' hv' ho' hk'
          rw [Nat.zero_add] at hv'
          obtain ⟨oa', cp', rfl⟩ := hv'.form
          refine go _ ?_
          refine J_ret ?_
          rw [List.append_nil] at hk'
          exact ends_retS [10, 11, 12] (post := (rb, rdB x s) :: (sm' ++ jk')) ⟨_, sm', jk', rfl, hv'.congr (fun i _ => by unfold catD; rw [if_neg (Nat.not_lt_zero _), Nat.sub_zero]), hk', rfl⟩
      · rw [← hhdr, if_neg (by omega)]
        refine go _ ?_
        refine J_condP rfl (fun hb => ?_) (fun hb => ?_)
        · rw [if_pos (by omega)]
          refine go _ ?_
          refine ro_callT (merr_t S rb x s _ _) ?_
          rintro v m ⟨⟨b', rfl⟩, rfl⟩
          refine go _ ?_
          refine J_ret ?_
          exact ends_retS [10, 11, 12] (post := (rb, rdB x s) :: sm) ⟨_, sm, rfl, .inl ⟨b', rfl⟩, Kp.refl _, rfl⟩
        · rw [if_neg (by omega)]
          obtain ⟨b0, o0, rfl⟩ := hv.some (by omega)
          have hdo := hd o
          refine go _ ?_
          refine J_loopL (σ := RleS) [2, 14, 15] (fun t => [(4, .slice t.oa t.i t.cp), (16, .int .i64 (t.i : Nat))]) (fun t => (rb, rdB x s) :: (t.sm ++ t.jk)) (fun t => t.i ≤ K ∧ LtM (.slice t.oa t.i t.cp) t.i (fun _ => d o) t.sm ∧ Kp sm (t.sm ++ t.jk)) (fun t => K - t.i) ⟨0, va, vc, sm, []⟩ (by rw [List.append_nil]; exact .refl _) ⟨Nat.zero_le _, hl.congr fun i hi => absurd hi (Nat.not_lt_zero _), by rw [List.append_nil]; exact Kp.refl _⟩ ?_
          rintro ⟨i, wa, wc, sm1, jk1⟩ f ⟨k1, k2, k3⟩
          dsimp only at k1 k2 k3 ⊢
          refine go _ ?_
          refine J_condP rfl (fun hlt => ?_) (fun hge => ?_)
          · refine go _ ?_
            refine ro_buildSlice1 (z := .int .u8 0) (vs := [.int .u8 (d o : Nat)]) rfl rfl z5 rfl rfl rfl rfl hex fun tb htb => ?_
            refine go _ ?_
            refine ro_appL (fm := [(rb, rdB x s)]) (sm := sm1) (jk := (tb, listB [.int .u8 (d o : Nat)] 5) :: jk1) (s := fun _ => d o) (src := fun j => (listB [.int .u8 (d o : Nat)] 5).g (0 + j)) (k := 1) rfl rfl rfl rfl z5 (by decide) rfl rfl k2
              ((List.Perm.swap _ _ _).trans (List.Perm.cons _ List.perm_middle.symm)) (Src.of (B := listB [.int .u8 (d o : Nat)] 5) (by simp) (by show 0 + 1 * 1 ≤ 1; decide)) (fun j hj => by rw [show j = 0 by omega]; rfl) (by omega) hex rfl ?_
            intro w' sm2 jk2 hw' ho' hk'
            obtain ⟨oa', cp', rfl⟩ := hw'.form
            refine go _ ?_
            refine ⟨⟨i + 1, oa', cp', sm2, jk2⟩, by dsimp only; omega, ⟨by dsimp only; omega, hw'.congr fun j hj => ?_, ?_⟩, ⟨rfl, rfl, rfl, rfl, rfl, trivial⟩, .refl _⟩
            · unfold catD; split <;> rfl
            · exact (k3.trans (Kp.sub fun p hp => (List.mem_append.1 hp).elim (fun h => List.mem_append.2 (.inl h)) fun h => List.mem_append.2 (.inr (List.mem_cons_of_mem _ h)))).trans hk'
          · obtain rfl : i = K := by omega
            refine go _ ?_
            refine J_ret ?_
            exact ends_retS [10, 11, 12] (post := (rb, rdB x s) :: (sm1 ++ jk1)) ⟨_, sm1, jk1, rfl, k2, k3, rfl⟩
end Go.Proofs.YtogmacnlpclgkaaDoor
