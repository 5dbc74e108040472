/-
  PLAIN LAWS 1: a frame of one block of bytes as they are is read as these, if its size (and checksum) is right, and else told as an error.
-/
import Derived.Test.YtogmacnlpclgkaaDoorW23
namespace Go.Proofs.YtogmacnlpclgkaaDoor
open Go Go.Eng
set_option maxRecDepth 4000
section
variable {E : Type} {dat : Nat → Nat} {N : Nat} {ini : E → E} {cmp : PS E → Nat → PS E × Bool}

/-- A frame with one block of L bytes, as they are. -/
structure Fr1 (dat : Nat → Nat) (N : Nat) (tx : Nat → Nat) (L n hl : Nat) (sum : Bool) (win x : Nat) : Prop where
  hdr : hdrAt dat N (skipTo dat N N 0) = .ok sum true n win hl
  blk : hdr3 dat hl = 8 * L + 1
  txt : ∀ i, i < L → dat (hl + 3 + i) = tx i
  len : N = hl + 3 + L + (if sum then 4 else 0)
  le : L ≤ 131072
  win : win = 0 ∨ L ≤ win
  sm : sum = true → le4 (fun i => dat (hl + 3 + L + i)) = x

theorem skip_end (dat : Nat → Nat) (N : Nat) : skipTo dat N N N = N := by
  cases N with
  | zero => rfl
  | succ n =>
    unfold skipTo wholeSkip isSkip
    rw [if_neg]
    simp
theorem hdr_end (dat : Nat → Nat) (N : Nat) : hdrAt dat N N = .short := by
  unfold hdrAt; rw [if_pos (by omega)]

/-- Behind all frames, with bytes left in the buffer. -/
theorem drain (tx : Nat → Nat) : ∀ k (p : PS E) (O : Nat → Nat), p.bl - p.off = k → p.saw = false → p.pos = N → p.one = true → p.off ≤ p.bl → (∀ i, i < p.bl → p.S i = tx i) → (∀ i, i < p.off → O i = tx i) →
    ∃ O', AllR dat N ini cmp 4096 p O p.off (O', p.bl, true) ∧ ∀ i, i < p.bl → O' i = tx i := by
  intro k
  induction k using Nat.strongRecOn with
  | _ k ih =>
    intro p O hk hs hp ho hle hS hO
    by_cases h : p.off < p.bl
    · have h1 := rdNeed_done dat N ini cmp p h
      have hr : rdRead dat N ini cmp 4096 p = ({ p with off := p.off + min 4096 (p.bl - p.off) }, min 4096 (p.bl - p.off), 0) := by
        unfold rdRead; rw [h1]; rfl
      have hg : rdGot dat N ini cmp p = fun i => p.S (p.off + i) := by unfold rdGot; rw [h1]
      obtain ⟨O', h2, h3⟩ := ih (p.bl - (p.off + min 4096 (p.bl - p.off))) (by omega) { p with off := p.off + min 4096 (p.bl - p.off) } (catF O p.off (rdGot dat N ini cmp p)) rfl hs hp ho (by dsimp only; omega) hS (by
        intro i hi
        dsimp only at hi
        unfold catF
        split
        · exact hO i ‹_›
        · rw [hg]
          dsimp only
          rw [show p.off + (i - p.off) = i by omega]
          exact hS i (by omega))
      refine ⟨O', .step p O p.off _ (by rw [hr]) ?_, h3⟩
      rw [show (rdRead dat N ini cmp 4096 p).1 = { p with off := p.off + min 4096 (p.bl - p.off) } by rw [hr], show (rdRead dat N ini cmp 4096 p).2.1 = min 4096 (p.bl - p.off) by rw [hr]]
      exact h2
    · have hoff : p.off = p.bl := by omega
      have hh : rdHdr dat N ini p = ({ p with pos := N, one := true }, 1) := by
        unfold rdHdr
        rw [hp, skip_end, hdr_end]
        dsimp only
        rw [ho, Bool.true_or, if_pos ⟨Nat.sub_self _, rfl⟩]
      have hH : rdHd dat N ini p = ({ p with pos := N, one := true }, 1) := by
        unfold rdHd
        rw [if_neg (by rw [hs]; decide), hh]
      have hf : rdFill dat N ini cmp p = ({ p with pos := N, one := true }, 1) := by
        unfold rdFill
        rw [hH, if_neg (by show ¬ (1 : Nat) = 0; decide)]
      have hr : (rdRead dat N ini cmp 4096 p).2.2 = 1 := by
        unfold rdRead
        rw [rdNeed_stop dat N ini cmp p h (by rw [hf]; exact Nat.one_ne_zero), hf, if_neg (by show ¬ (1 : Nat) = 0; decide)]
      refine ⟨O, ?_, fun i hi => hO i (by omega)⟩
      have := AllR.stop (dat := dat) (N := N) (ini := ini) (cmp := cmp) (n := 4096) p O p.off (by rw [hr]; decide)
      rw [hr, hoff] at this
      rw [hoff]
      exact this

variable {tx : Nat → Nat} {L n hl : Nat} {sum : Bool} {win x : Nat}

theorem fr1_hd (h : Fr1 dat N tx L n hl sum win x) (p : PS E) (hs : p.saw = false) (hp : p.pos = 0) :
    rdHd dat N ini p = ({ p with pos := hl, saw := true, sum := sum, one := true, unk := false, rem := n, wl := 0, wsz := win, XN := 0, e := ini p.e }, 0) := by
  unfold rdHd rdHdr
  rw [hs, if_neg (by decide), hp, h.hdr]
  rfl

theorem xhead_congr {v v' : Nat → Nat} (h : ∀ i, i < 4 → v i = v' i) (l : Nat) : xhead v l = xhead v' l := by
  unfold xhead xsum
  rw [h 0 (by omega), h 1 (by omega), h 2 (by omega), h 3 (by omega)]
theorem xdig_same {T T' : Nat → Nat} {L : Nat} (h : ∀ i, i < L → T i = T' i) : xdig T L = xdig T' L := by
  unfold xdig
  rw [xhead_congr (fun i hi => xacc_congr (L / 32) (fun j hj => h j (by omega)) i hi), xtail_congr fun i hi => h (32 * (L / 32) + i) (by omega)]

theorem rdBlk_raw (p : PS E) (L : Nat) (h3 : 3 ≤ N - p.pos) (hb : hdr3 dat p.pos = 8 * L + 1) (hL : L ≤ 131072) (hw : ¬ (0 < p.wsz ∧ p.wsz < L)) (hk : L ≤ N - (p.pos + 3)) :
    rdBlk dat N cmp p = rdEnd dat N true { p with pos := p.pos + 3 + L, S := ov p.S L dat (p.pos + 3), bl := L } := by
  have hsz : (8 * L + 1) / 8 = L := by omega
  have hty : (8 * L + 1) / 2 % 4 = 0 := by omega
  have hmn : min L (N - (p.pos + 3)) = L := by omega
  have hl : decide ((8 * L + 1) % 2 ≠ 0) = true := by rw [decide_eq_true_iff]; omega
  unfold rdBlk
  rw [if_neg (by omega)]
  dsimp only
  rw [hb, if_neg (by omega), if_pos hty, if_neg (by omega), hl, hsz, hmn]

theorem fr1_fill (h : Fr1 dat N tx L n hl sum win x) (p : PS E) (hs : p.saw = false) (hp : p.pos = 0) :
    (rdFill dat N ini cmp p).2 = (if n = L ∧ (sum = true → x = xdig tx L % 4294967296) then 0 else 2) ∧
    ((rdFill dat N ini cmp p).2 = 0 → (rdFill dat N ini cmp p).1.saw = false ∧ (rdFill dat N ini cmp p).1.pos = N ∧ (rdFill dat N ini cmp p).1.one = true ∧ (rdFill dat N ini cmp p).1.bl = L ∧ ∀ i, i < L → (rdFill dat N ini cmp p).1.S i = tx i) := by
  have hlen := h.len
  have hle := h.le
  have hwn := h.win
  obtain ⟨P, hP⟩ : ∃ P : PS E, P = { p with pos := hl + 3 + L, saw := true, sum := sum, one := true, unk := false, rem := n, S := ov p.S L dat (hl + 3), bl := L, wl := 0, wsz := win, XN := 0, e := ini p.e } := ⟨_, rfl⟩
  have hF : rdFill dat N ini cmp p = ((rdEnd dat N true P).1, if (rdEnd dat N true P).2 then 0 else 2) := by
    unfold rdFill
    rw [fr1_hd h p hs hp, if_pos rfl, rdBlk_raw _ L (by dsimp only; split at hlen <;> omega) h.blk hle (by dsimp only; omega) (by dsimp only; split at hlen <;> omega), hP]
  have p1 : P.unk = false := by rw [hP]
  have p2 : P.rem = n := by rw [hP]
  have p3 : P.bl = L := by rw [hP]
  have p4 : P.sum = sum := by rw [hP]
  have p5 : P.pos = hl + 3 + L := by rw [hP]
  have p6 : P.XN = 0 := by rw [hP]
  have p7 : P.one = true := by rw [hP]
  have hov : ∀ i, i < L → P.S i = tx i := fun i hi => by rw [hP]; show ov p.S L dat (hl + 3) i = _; unfold ov; rw [if_pos hi]; exact h.txt i hi
  clear hP
  have hx : xdig (catF P.XT 0 P.S) L = xdig tx L := xdig_same fun i hi => by
    unfold catF; rw [if_neg (Nat.not_lt_zero _), Nat.sub_zero]; exact hov i hi
  rw [hF]
  by_cases h1 : n < L
  · have hE : rdEnd dat N true P = (P, false) := by unfold rdEnd; rw [if_pos ⟨p1, by omega⟩]
    have g : (if n = L ∧ (sum = true → x = xdig tx L % 4294967296) then (0 : Nat) else 2) = 2 := if_neg fun h => by omega
    rw [hE, g]
    exact ⟨rfl, fun h => absurd h (by show ¬ (2 : Nat) = 0; decide)⟩
  by_cases h2 : n = L
  · cases sum with
    | false =>
      have hE : rdEnd dat N true P = ({ P with rem := P.rem - P.bl, saw := false }, true) := by
        unfold rdEnd
        rw [if_neg (by omega)]
        dsimp only
        rw [if_neg (by decide), p1, p4]
        simp only [Bool.false_eq_true, if_false, if_true]
        rw [if_neg (by omega)]
      have g : (if n = L ∧ (false = true → x = xdig tx L % 4294967296) then (0 : Nat) else 2) = 0 := if_pos ⟨h2, fun h => absurd h (by decide)⟩
      rw [hE, g]
      exact ⟨rfl, fun _ => ⟨rfl, by simp only [Bool.false_eq_true, if_false] at hlen; dsimp only; omega, p7, p3, hov⟩⟩
    | true =>
      simp only [if_true] at hlen
      have hE : rdEnd dat N true P = (if x = xdig tx L % 4294967296 then ({ P with rem := P.rem - P.bl, XT := catF P.XT P.XN P.S, XN := P.XN + P.bl, pos := P.pos + 4, saw := false }, true) else ({ P with rem := P.rem - P.bl, XT := catF P.XT P.XN P.S, XN := P.XN + P.bl, pos := P.pos + 4 }, false)) := by
        unfold rdEnd
        rw [if_neg (by omega)]
        dsimp only
        rw [if_neg (by decide), p1, p4]
        simp only [Bool.false_eq_true, if_false, if_true]
        rw [if_neg (by omega), if_neg (by decide), if_neg (by omega)]
        have e1 : le4 (fun i => dat (P.pos + i)) = x := by rw [p5]; exact h.sm rfl
        have e2 : xdig (catF P.XT P.XN P.S) (P.XN + P.bl) = xdig tx L := by rw [p6, p3, Nat.zero_add]; exact hx
        rw [e1, e2]
      by_cases h3 : x = xdig tx L % 4294967296
      · rw [if_pos h3] at hE
        have g : (if n = L ∧ (true = true → x = xdig tx L % 4294967296) then (0 : Nat) else 2) = 0 := if_pos ⟨h2, fun _ => h3⟩
        rw [hE, g]
        exact ⟨rfl, fun _ => ⟨rfl, by dsimp only; omega, p7, p3, hov⟩⟩
      · rw [if_neg h3] at hE
        have g : (if n = L ∧ (true = true → x = xdig tx L % 4294967296) then (0 : Nat) else 2) = 2 := if_neg fun h => h3 (h.2 rfl)
        rw [hE, g]
        exact ⟨rfl, fun h => absurd h (by show ¬ (2 : Nat) = 0; decide)⟩
  · have hE : (rdEnd dat N true P).2 = false := by
      unfold rdEnd
      rw [if_neg (by omega)]
      dsimp only
      rw [if_neg (by decide), p1]
      simp only [Bool.false_eq_true, if_false]
      rw [if_pos ⟨trivial, by omega⟩]
    have g : (if n = L ∧ (sum = true → x = xdig tx L % 4294967296) then (0 : Nat) else 2) = 2 := if_neg fun h => h2 h.1
    rw [hE, g]
    exact ⟨rfl, fun h => absurd h (by show ¬ (2 : Nat) = 0; decide)⟩

/-- All of such a frame. -/
theorem fr1_all (hc : CmpGo N cmp) (h : Fr1 dat N tx L n hl sum win x) (p : PS E) (hs : p.saw = false) (hp : p.pos = 0) (hb : ¬ p.off < p.bl) (O : Nat → Nat) :
    ∃ r, AllR dat N ini cmp 4096 p O 0 r ∧ r.2.2 = decide (n = L ∧ (sum = true → x = xdig tx L % 4294967296)) ∧ (r.2.2 = true → r.2.1 = L ∧ ∀ i, i < L → r.1 i = tx i) ∧ r.2.1 ≤ L := by
  obtain ⟨h1, h2⟩ := fr1_fill (ini := ini) (cmp := cmp) h p hs hp
  by_cases hg : n = L ∧ (sum = true → x = xdig tx L % 4294967296)
  · rw [if_pos hg] at h1
    obtain ⟨a1, a2, a3, a4, a5⟩ := h2 h1
    have hn := rdNeed_step dat N ini cmp hc p hb h1
    obtain ⟨O', h3, h4⟩ := drain (dat := dat) (N := N) (ini := ini) (cmp := cmp) tx _ { (rdFill dat N ini cmp p).1 with off := 0 } O rfl a1 a2 a3 (Nat.zero_le _) (fun i hi => a5 i (by rw [← a4]; exact hi)) (fun i hi => absurd hi (Nat.not_lt_zero _))
    have hr : rdRead dat N ini cmp 4096 p = rdRead dat N ini cmp 4096 { (rdFill dat N ini cmp p).1 with off := 0 } := by
      unfold rdRead; rw [hn]
    have hg' : rdGot dat N ini cmp p = rdGot dat N ini cmp { (rdFill dat N ini cmp p).1 with off := 0 } := by
      unfold rdGot; rw [hn]
    refine ⟨(O', (rdFill dat N ini cmp p).1.bl, true), ?_, by rw [decide_eq_true hg], fun _ => ⟨a4, fun i hi => h4 i (by dsimp only; omega)⟩, Nat.le_of_eq a4⟩
    by_cases h0 : (rdRead dat N ini cmp 4096 p).2.2 = 0
    · have h5 := h3.next (by rw [← hr]; exact h0)
      refine .step p O 0 _ h0 ?_
      rw [hr, hg']
      exact h5
    · have h5 := h3.last (by rw [← hr]; exact h0)
      rw [h5, ← hr]
      exact .stop p O 0 h0
  · rw [if_neg hg] at h1
    have hr : (rdRead dat N ini cmp 4096 p).2.2 = 2 := by
      unfold rdRead
      rw [rdNeed_stop dat N ini cmp p hb (by rw [h1]; decide), if_neg (by rw [h1]; decide), h1]
    refine ⟨_, .stop p O 0 (by rw [hr]; decide), ?_, ?_, Nat.zero_le _⟩
    · rw [hr, decide_eq_false hg]; rfl
    · rw [hr]; intro h; exact absurd h (by show ¬ decide ((2 : Nat) = 1) = true; decide)
end

/-! The bytes of such frames -/
def sizedF (n L : Nat) (tx : Nat → Nat) : Nat → Nat := fun i =>
  if i < 13 then [40, 181, 47, 253, 128, 104, n % 256, n / 256 % 256, n / 65536 % 256, n / 16777216 % 256, (8 * L + 1) % 256, (8 * L + 1) / 256 % 256, (8 * L + 1) / 65536 % 256].getD i 0 else tx (i - 13)

theorem noSkip {dat : Nat → Nat} {N p : Nat} (h : magicAt dat p = 4247762216) : skipTo dat N N p = p := by
  cases N with
  | zero => rfl
  | succ k => unfold skipTo wholeSkip isSkip; rw [h, if_neg (by simp)]

theorem sized_fr {dat tx : Nat → Nat} {L n : Nat} (hdt : ∀ i, i < 13 + L → dat i = sizedF n L tx i) (hL : L ≤ 131072) (hn : n < 4294967296) : Fr1 dat (13 + L) tx L n 10 false 8388608 0 := by
  have d : ∀ i, i < 13 → dat i = [40, 181, 47, 253, 128, 104, n % 256, n / 256 % 256, n / 65536 % 256, n / 16777216 % 256, (8 * L + 1) % 256, (8 * L + 1) / 256 % 256, (8 * L + 1) / 65536 % 256].getD i 0 := fun i hi => by
    rw [hdt i (by omega)]; unfold sizedF; rw [if_pos hi]
  have d0 : dat 0 = 40 := d 0 (by omega)
  have d1 : dat 1 = 181 := d 1 (by omega)
  have d2 : dat 2 = 47 := d 2 (by omega)
  have d3 : dat 3 = 253 := d 3 (by omega)
  have d4 : dat 4 = 128 := d 4 (by omega)
  have d5 : dat 5 = 104 := d 5 (by omega)
  have d6 : dat 6 = n % 256 := d 6 (by omega)
  have d7 : dat 7 = n / 256 % 256 := d 7 (by omega)
  have d8 : dat 8 = n / 65536 % 256 := d 8 (by omega)
  have d9 : dat 9 = n / 16777216 % 256 := d 9 (by omega)
  have d10 : dat 10 = (8 * L + 1) % 256 := d 10 (by omega)
  have d11 : dat 11 = (8 * L + 1) / 256 % 256 := d 11 (by omega)
  have d12 : dat 12 = (8 * L + 1) / 65536 % 256 := d 12 (by omega)
  have hm : magicAt dat 0 = 4247762216 := by unfold magicAt le4; simp only [Nat.zero_add, d0, d1, d2, d3]
  have hA : hAll 128 = 5 := by decide
  have hsz : hSize dat 128 6 = n := by
    unfold hSize
    rw [if_neg (by decide), if_neg (by decide), if_neg (by decide), if_pos (by decide)]
    unfold le4
    simp only [Nat.reduceAdd, d6, d7, d8, d9]
    omega
  refine ⟨?_, ?_, fun i hi => ?_, rfl, hL, .inr (by omega), fun h => absurd h (by decide)⟩
  · rw [noSkip hm]
    unfold hdrAt
    rw [if_neg (by omega), if_neg (by rw [hm]; decide), if_neg (by omega)]
    dsimp only
    rw [Nat.zero_add, d4, if_neg (by decide), hA, if_neg (by omega), show hZero dat (0 + 5 + hWin 128) (hDict 128) = true from rfl, if_neg (by decide)]
    rw [show 0 + 5 + hWin 128 + hDict 128 = 6 from rfl, hsz, show hSum 128 = false from rfl, show (hFcs 128 != 0) = true from rfl, show hSingle 128 = false from rfl, if_neg (by decide), Nat.zero_add, d5]
    rfl
  · unfold hdr3
    simp only [Nat.reduceAdd, d10, d11, d12]
    omega
  · rw [hdt _ (by omega)]; unfold sizedF; rw [if_neg (by omega), show 10 + 3 + i - 13 = i by omega]

def storedF (L x : Nat) (tx : Nat → Nat) : Nat → Nat := fun i =>
  if i < 12 then [40, 181, 47, 253, 164, L % 256, L / 256 % 256, L / 65536 % 256, L / 16777216 % 256, (8 * L + 1) % 256, (8 * L + 1) / 256 % 256, (8 * L + 1) / 65536 % 256].getD i 0
  else if i < 12 + L then tx (i - 12) else [x % 256, x / 256 % 256, x / 65536 % 256, x / 16777216 % 256].getD (i - (12 + L)) 0

theorem stored_fr {dat tx : Nat → Nat} {L x : Nat} (hdt : ∀ i, i < 16 + L → dat i = storedF L x tx i) (hL : L ≤ 131072) (hx : x < 4294967296) : Fr1 dat (16 + L) tx L L 9 true (min 8388608 L) x := by
  have d : ∀ i, i < 12 → dat i = [40, 181, 47, 253, 164, L % 256, L / 256 % 256, L / 65536 % 256, L / 16777216 % 256, (8 * L + 1) % 256, (8 * L + 1) / 256 % 256, (8 * L + 1) / 65536 % 256].getD i 0 := fun i hi => by
    rw [hdt i (by omega)]; unfold storedF; rw [if_pos hi]
  have e : ∀ i, i < 4 → dat (12 + L + i) = [x % 256, x / 256 % 256, x / 65536 % 256, x / 16777216 % 256].getD i 0 := fun i hi => by
    rw [hdt _ (by omega)]; unfold storedF; rw [if_neg (by omega), if_neg (by omega), show 12 + L + i - (12 + L) = i by omega]
  have d0 : dat 0 = 40 := d 0 (by omega)
  have d1 : dat 1 = 181 := d 1 (by omega)
  have d2 : dat 2 = 47 := d 2 (by omega)
  have d3 : dat 3 = 253 := d 3 (by omega)
  have d4 : dat 4 = 164 := d 4 (by omega)
  have d5 : dat 5 = L % 256 := d 5 (by omega)
  have d6 : dat 6 = L / 256 % 256 := d 6 (by omega)
  have d7 : dat 7 = L / 65536 % 256 := d 7 (by omega)
  have d8 : dat 8 = L / 16777216 % 256 := d 8 (by omega)
  have d9 : dat 9 = (8 * L + 1) % 256 := d 9 (by omega)
  have d10 : dat 10 = (8 * L + 1) / 256 % 256 := d 10 (by omega)
  have d11 : dat 11 = (8 * L + 1) / 65536 % 256 := d 11 (by omega)
  have e0 : dat (12 + L + 0) = x % 256 := e 0 (by omega)
  have e1 : dat (12 + L + 1) = x / 256 % 256 := e 1 (by omega)
  have e2 : dat (12 + L + 2) = x / 65536 % 256 := e 2 (by omega)
  have e3 : dat (12 + L + 3) = x / 16777216 % 256 := e 3 (by omega)
  have hm : magicAt dat 0 = 4247762216 := by unfold magicAt le4; simp only [Nat.zero_add, d0, d1, d2, d3]
  have hA : hAll 164 = 4 := by decide
  have hsz : hSize dat 164 5 = L := by
    unfold hSize
    rw [if_neg (by decide), if_neg (by decide), if_neg (by decide), if_pos (by decide)]
    unfold le4
    simp only [Nat.reduceAdd, d5, d6, d7, d8]
    omega
  refine ⟨?_, ?_, fun i hi => ?_, by rw [if_pos rfl]; omega, hL, .inr (by omega), fun _ => ?_⟩
  · rw [noSkip hm]
    unfold hdrAt
    rw [if_neg (by omega), if_neg (by rw [hm]; decide), if_neg (by omega)]
    dsimp only
    rw [Nat.zero_add, d4, if_neg (by decide), hA, if_neg (by omega), show hZero dat (0 + 5 + hWin 164) (hDict 164) = true from rfl, if_neg (by decide)]
    rw [show 0 + 5 + hWin 164 + hDict 164 = 5 from rfl, hsz, show hSum 164 = true from rfl, show (hFcs 164 != 0) = true from rfl, show hSingle 164 = true from rfl, if_pos rfl]
  · unfold hdr3
    simp only [Nat.reduceAdd, d9, d10, d11]
    omega
  · rw [hdt _ (by omega)]; unfold storedF; rw [if_neg (by omega), if_pos (by omega), show 9 + 3 + i - 12 = i by omega]
  · unfold le4
    simp only [show 9 + 3 + L = 12 + L by omega]
    rw [e0, e1, e2, e3]
    omega

def wakeF : Nat → Nat := fun i => [40, 181, 47, 253, 32, 2, 17, 0, 0, 104, 105].getD i 0
theorem wake_fr {dat : Nat → Nat} (hdt : ∀ i, i < 11 → dat i = wakeF i) : Fr1 dat 11 (fun i => [104, 105].getD i 0) 2 2 6 false 2 0 := by
  have d0 : dat 0 = 40 := hdt 0 (by omega)
  have d1 : dat 1 = 181 := hdt 1 (by omega)
  have d2 : dat 2 = 47 := hdt 2 (by omega)
  have d3 : dat 3 = 253 := hdt 3 (by omega)
  have d4 : dat 4 = 32 := hdt 4 (by omega)
  have d5 : dat 5 = 2 := hdt 5 (by omega)
  have d6 : dat 6 = 17 := hdt 6 (by omega)
  have d7 : dat 7 = 0 := hdt 7 (by omega)
  have d8 : dat 8 = 0 := hdt 8 (by omega)
  have hm : magicAt dat 0 = 4247762216 := by unfold magicAt le4; simp only [Nat.zero_add, d0, d1, d2, d3]
  have hA : hAll 32 = 1 := by decide
  have hsz : hSize dat 32 5 = 2 := by
    unfold hSize
    rw [if_neg (by decide), if_pos (by decide), d5]
  refine ⟨?_, ?_, fun i hi => ?_, rfl, by omega, .inr (by omega), fun h => absurd h (by decide)⟩
  · rw [noSkip hm]
    unfold hdrAt
    rw [if_neg (by omega), if_neg (by rw [hm]; decide), if_neg (by omega)]
    dsimp only
    rw [Nat.zero_add, d4, if_neg (by decide), hA, if_neg (by omega), show hZero dat (0 + 5 + hWin 32) (hDict 32) = true from rfl, if_neg (by decide)]
    rw [show 0 + 5 + hWin 32 + hDict 32 = 5 from rfl, hsz, show hSum 32 = false from rfl, show (hFcs 32 != 0) = true from rfl, show hSingle 32 = true from rfl, if_pos rfl]
    rfl
  · unfold hdr3
    simp only [Nat.reduceAdd, d6, d7, d8]
  · match i, hi with
    | 0, _ => exact hdt 9 (by omega)
    | 1, _ => exact hdt 10 (by omega)
end Go.Proofs.YtogmacnlpclgkaaDoor
