/-
  WALKS 10: THE REFERENCE: numberLow, headerOf, HeadOf.
-/
import Derived.Test.YtogmacnlpclgkaaDoorW9
namespace Go.Proofs.YtogmacnlpclgkaaDoor
open Go Go.Eng
attribute [local irreducible] RO J Trip Quiet
variable {G : Mem} {dat : Nat → Nat}

/-- The operations of a list in an order. -/
def pickL (l : List Oper) : List Nat → Option (List Oper)
  | [] => some []
  | i :: r => match l[i]?, pickL l r with
    | some o, some t => some (o :: t)
    | _, _ => none
theorem pickL_map {l : List Oper} : ∀ {ord : List Nat} {l' : List Oper}, pickL l ord = some l' → ord.map (l.toArray[·]?) = l'.map some
  | [], l', h => by cases h; rfl
  | i :: r, l', h => by
    unfold pickL at h
    split at h
    · rename_i o t h1 h2
      cases h
      simp only [List.map_cons, pickL_map h2]
      congr 1
      simpa using h1
    · cases h
theorem J_regionP {c : World} {n : Nat} {h0 : Base} {Q : Exit → Fr → Mem → Prop} {f : Fr} {m : Mem} {id : Nat} {l : List Oper} {qs : List FuncId} (ord : List Nat) {l' : List Oper} (hl : pickL l ord = some l')
    (hok : fastOk l qs ord = true) (h : RO Tryd.prog G qs c n h0 l.toArray (fun f m => Q .normal f m) l' f m) : J Tryd.prog G c n h0 (.region id l.toArray true) Q f m :=
  J_regionO ord mixed_ok hok (pickL_map hl) h

/-- The number of so many bytes, the lowest one first. -/
def numLow (x : Nat → Nat) : Nat → Nat
  | 0 => 0
  | n + 1 => numLow x n + x n * 2 ^ (8 * n)
theorem numLow_lt {x : Nat → Nat} (hx : ∀ i, x i < 256) : ∀ n, numLow x n < 2 ^ (8 * n)
  | 0 => by simp [numLow]
  | n + 1 => by
    have ih := numLow_lt hx n
    have h1 : x n * 2 ^ (8 * n) ≤ 255 * 2 ^ (8 * n) := Nat.mul_le_mul_right _ (by have := hx n; omega)
    have h2 : 2 ^ (8 * (n + 1)) = 256 * 2 ^ (8 * n) := by rw [show 8 * (n + 1) = 8 * n + 8 by omega, Nat.pow_add]; omega
    rw [numLow, h2]; omega
theorem numLow_le {x : Nat → Nat} : ∀ {n i : Nat}, i < n → numLow x i + x i * 2 ^ (8 * i) ≤ numLow x n
  | n + 1, i, h => by
    rcases Nat.lt_succ_iff_lt_or_eq.1 h with h | h
    · have := numLow_le (x := x) h
      rw [numLow]; omega
    · subst h; rw [numLow]; exact Nat.le_refl _
theorem numLow_zero {x : Nat → Nat} : ∀ {n : Nat}, numLow x n = 0 ↔ ∀ i, i < n → x i = 0
  | 0 => by simp [numLow]
  | n + 1 => by
    have h2 : 0 < 2 ^ (8 * n) := Nat.pow_pos (by omega)
    rw [numLow, Nat.add_eq_zero_iff, numLow_zero (n := n), Nat.mul_eq_zero]
    constructor
    · rintro ⟨h1, h3⟩ i hi
      rcases Nat.lt_succ_iff_lt_or_eq.1 hi with h | h
      · exact h1 i h
      · subst h; rcases h3 with h | h <;> omega
    · exact fun h => ⟨fun i hi => h i (by omega), .inl (h n (by omega))⟩
theorem hZero_iff {x : Nat → Nat} {p n : Nat} : hZero x p n = true ↔ numLow (fun i => x (p + i)) n = 0 := by
  rw [numLow_zero]
  unfold hZero
  simp [List.all_eq_true]
theorem or_eq_add {a b j : Nat} (h : a < 2 ^ j) : a ||| (b * 2 ^ j) = a + b * 2 ^ j := by
  have := Nat.shiftLeft_add_eq_or_of_lt h b
  rw [Nat.shiftLeft_eq] at this
  rw [Nat.or_comm, ← this]; omega

theorem numberLow_t (oa : Option Addr) (n cp : Nat) (x : Nat → Nat) (hx : ∀ i, x i < 256) (hdv : DataV G oa n cp x) (hlt : numLow x n < 2 ^ 63) (hn : n ≤ 8) :
    Trip Tryd.prog G 19 #[.slice oa n cp] [] (fun v m => m = [] ∧ v = .int .i64 (numLow x n)) := by
  refine Trip_of Tryd.func19 rfl (by show 1 ≤ _; decide) (args := [.slice oa n cp]) fun c h0 hex => ?_
  refine run _ ?_
  refine J_loopS (σ := Nat) (fun i => [(3, .int .i64 (numLow x i)), (6, .slice oa n cp), (7, .int .i64 n), (8, .int .i64 i)]) (fun _ => []) (fun i => i ≤ n) (fun i => n - i) 0 ⟨rfl, rfl, rfl, rfl, trivial⟩ (.refl _) (Nat.zero_le _) ?_
  intro i f hi
  refine run _ ?_
  refine J_condP rfl (fun hlt2 => ?_) (fun hge => ?_)
  · have hin : i < n := by omega
    rcases hdv.is with ⟨_, h2, _⟩ | ⟨b, o, B, rfl, h3, h4, h5⟩
    · omega
    have hb := hx i
    have hle := numLow_le (x := x) hin
    have h4 := h4 (by omega)
    have hl1 := numLow_lt hx i
    refine run _ ?_
    refine ro_loadA (v := .int .u8 (x i)) rfl rfl (by simpa using h3) (by simp; omega) (by rw [Int.toNat_natCast]; exact h5 i hin) rfl ?_
    refine runO _ ?_
    refine run _ ?_
    refine ro_shlN (x i) (8 * i) rfl (by show Value.int _ _ = Value.int _ _; congr 1) (by show _ ≤ 64; omega) (by show _ < 2 ^ 63; omega) rfl ?_
    refine runO _ ?_
    refine ro_orN (numLow x i) (x i * 2 ^ (8 * i)) rfl rfl (by show _ < 2 ^ 63; omega) (by show _ < 2 ^ 63; omega) rfl ?_
    rw [or_eq_add hl1]
    refine runO _ ?_
    refine run _ ?_
    exact ⟨i + 1, by omega, by omega, ⟨rfl, rfl, rfl, rfl, trivial⟩, .refl _⟩
  · have hin : i = n := by omega
    subst hin
    refine run _ ?_
    refine J_ret ?_
    exact ends_retS [2] ⟨rfl, rfl⟩

inductive SpecR
  | wrong
  | open_
  | right (size win pos : Nat)
def specHdr (x : Nat → Nat) (n : Nat) : SpecR :=
  let d := x 4
  if d / 8 % 2 = 1 then .wrong
  else if n < 5 + hAll d then .wrong
  else if hZero x (5 + hWin d) (hDict d) = false then .wrong
  else if hFcs d = 8 ∧ 64 ≤ x (5 + hWin d + hDict d + 7) then .open_
  else
    let size := hSize x d (5 + hWin d + hDict d)
    let win := if hSingle d then size else hWindow (x 5)
    if 8388608 < win then .open_ else .right size win (5 + hAll d)

def specHdrV (x : Nat → Nat) (n : Nat) (v : Value) : Prop := ∃ a b at_ vd : Nat,
  v = .tuple #[.agg #[.int .i64 a, .int .i64 b, .bool (hFcs (x 4) != 0), .bool (hSum (x 4))], .int .i64 at_, .int .i64 vd] ∧ at_ ≤ 4294967296 ∧
    match specHdr x n with
    | .wrong => vd = 2
    | .open_ => vd = 0
    | .right size win pos => vd = 1 ∧ a = size ∧ b = win ∧ at_ = pos

/-- Numbers of at most eight bytes, the eighth one small. -/
theorem numLow_62 {y : Nat → Nat} {n : Nat} (hy : ∀ i, y i < 256) (hn : n ≤ 8) (h8 : n = 8 → y 7 < 64) : numLow y n < 2 ^ 62 := by
  by_cases h : n = 8
  · subst h
    have h7 := numLow_lt hy 7
    have := h8 rfl
    rw [numLow]; omega
  · exact Nat.lt_of_lt_of_le (numLow_lt hy n) (Nat.pow_le_pow_right (by omega) (by omega))
theorem nl_succ (y : Nat → Nat) (n c : Nat) (hc : 2 ^ (8 * n) = c) : numLow y (n + 1) = numLow y n + y n * c := by rw [numLow, hc]
theorem pw : 2 ^ (8 * 0) = 1 ∧ 2 ^ (8 * 1) = 256 ∧ 2 ^ (8 * 2) = 65536 ∧ 2 ^ (8 * 3) = 16777216 ∧ 2 ^ (8 * 4) = 4294967296 ∧ 2 ^ (8 * 5) = 1099511627776 ∧ 2 ^ (8 * 6) = 281474976710656 ∧ 2 ^ (8 * 7) = 72057594037927936 := by decide
theorem nl1 (y : Nat → Nat) : numLow y 1 = y 0 := by rw [nl_succ y 0 1 pw.1, Nat.mul_one, numLow, Nat.zero_add]
theorem nl2 (y : Nat → Nat) : numLow y 2 = y 0 + y 1 * 256 := by rw [nl_succ y 1 256 pw.2.1, nl1]
theorem nl4 (y : Nat → Nat) : numLow y 4 = y 0 + y 1 * 256 + y 2 * 65536 + y 3 * 16777216 := by rw [nl_succ y 3 16777216 pw.2.2.2.1, nl_succ y 2 65536 pw.2.2.1, nl2]
theorem nl8 (y : Nat → Nat) : numLow y 8 = y 0 + y 1 * 256 + y 2 * 65536 + y 3 * 16777216 + y 4 * 4294967296 + y 5 * 1099511627776 + y 6 * 281474976710656 + y 7 * 72057594037927936 := by
  rw [nl_succ y 7 72057594037927936 pw.2.2.2.2.2.2.2, nl_succ y 6 281474976710656 pw.2.2.2.2.2.2.1, nl_succ y 5 1099511627776 pw.2.2.2.2.2.1, nl_succ y 4 4294967296 pw.2.2.2.2.1, nl4]
theorem hSize_numLow {x : Nat → Nat} {d p : Nat} (h : hFcs d = 0 ∨ hFcs d = 1 ∨ hFcs d = 2 ∨ hFcs d = 4 ∨ hFcs d = 8) : hSize x d p = numLow (fun i => x (p + i)) (hFcs d) + if hFcs d = 2 then 256 else 0 := by
  unfold hSize
  have e20 : ¬ (2 : Nat) = 0 := by decide
  have e21 : ¬ (2 : Nat) = 1 := by decide
  have e40 : ¬ (4 : Nat) = 0 := by decide
  have e41 : ¬ (4 : Nat) = 1 := by decide
  have e42 : ¬ (4 : Nat) = 2 := by decide
  have e80 : ¬ (8 : Nat) = 0 := by decide
  have e81 : ¬ (8 : Nat) = 1 := by decide
  have e82 : ¬ (8 : Nat) = 2 := by decide
  have e84 : ¬ (8 : Nat) = 4 := by decide
  rcases h with h | h | h | h | h
  · rw [h]; rfl
  · rw [h, nl1]; rfl
  · rw [h, nl2, if_neg e20, if_neg e21, if_pos rfl, if_pos rfl]; unfold le2; dsimp only; omega
  · rw [h, nl4, if_neg e40, if_neg e41, if_neg e42, if_pos rfl, if_neg e42, Nat.add_zero]; rfl
  · rw [h, nl8, if_neg e80, if_neg e81, if_neg e82, if_neg e84, if_neg e82]; unfold le8 le4; simp only [Nat.zero_add, Nat.reduceAdd]; omega

theorem headerOf_t (b o n cp : Nat) (B : Blk) (x : Nat → Nat) (hx : ∀ i, x i < 256) (hcp : n ≤ cp) (hB : (b, B) ∈ G) (hBn : o + n ≤ B.n) (hBg : ∀ i, i < n → B.g (o + i) = .int .u8 (x i)) (hn5 : 5 ≤ n) (hn : n ≤ 2 ^ 31) :
    Trip Tryd.prog G 20 #[.slice (some ⟨b, o, none⟩) n cp] [] (fun v m => m = [] ∧ specHdrV x n v) := by
  refine Trip_of Tryd.func20 rfl (by show 1 ≤ _; decide) (args := [.slice (some ⟨b, o, none⟩) n cp]) fun c h0 hex => ?_
  have hd4 := hx 4
  obtain ⟨bt1, bt2, bt3, bt4, bt5⟩ := bits_of hd4
  have hq4 : x 4 / 64 = 0 ∨ x 4 / 64 = 1 ∨ x 4 / 64 = 2 ∨ x 4 / 64 = 3 := by omega
  refine run _ ?_
  refine ro_alloc z54 rfl hex fun hr hhr => ?_
  refine runO _ ?_
  refine run _ ?_
  refine ro_loadA (v := .int .u8 (x 4)) rfl rfl (by simp [hB]) (by simp; omega) (hBg 4 (by omega)) rfl ?_
  refine runO _ ?_
  refine run _ ?_
  refine ro_andN (x 4) 32 rfl rfl (by show _ < 2 ^ 63; omega) (by decide) rfl ?_
  refine ro_neIntB (hSingle (x 4)) rfl rfl (by rw [← bt1]; omega) rfl ?_
  refine runO _ ?_
  refine run _ ?_
  refine ro_buildSlice1 (z := .int .i64 0) (vs := [.int .i64 0, .int .i64 2, .int .i64 4, .int .i64 8]) rfl rfl z3 rfl rfl rfl rfl hex fun sb hsb => ?_
  refine runO _ ?_
  refine run _ ?_
  refine J_cut [(0, .slice (some ⟨b, o, none⟩) n cp), (2, .pointer (some ⟨hr, 0, none⟩)), (5, .int .i64 (x 4)), (6, .int .i64 5), (7, .bool (hSingle (x 4))), (8, .slice (some ⟨sb, 0, none⟩) 4 4)]
    [(sb, listB [.int .i64 ((if hSingle (x 4) then 1 else 0 : Nat) : Int), .int .i64 2, .int .i64 4, .int .i64 8] 3), (hr, listB [.int .i64 0, .int .i64 0, .bool false, .bool false] 54)] ?_ ?_
  · refine J_cond rfl (fun hs => ?_) (fun hs => ?_)
    · have hs' : hSingle (x 4) = true := hs
      refine run _ ?_
      show slotsOk _ _ ∧ MEqv _ _
      exact ⟨⟨rfl, rfl, rfl, rfl, rfl, rfl, trivial⟩, .cons (by rw [hs']; exact blk_tab rfl rfl rfl rfl) (.refl _)⟩
    · have hs' : hSingle (x 4) = false := hs
      refine run _ ?_
      show slotsOk _ _ ∧ MEqv _ _
      exact ⟨⟨rfl, rfl, rfl, rfl, rfl, rfl, trivial⟩, .cons (by rw [hs']; rfl) (.refl _)⟩
  intro f
  have hsz : ∀ B : Blk, B = listB [.int .i64 ((if hSingle (x 4) then 1 else 0 : Nat) : Int), .int .i64 2, .int .i64 4, .int .i64 8] 3 → B.g (x 4 / 64) = .int .i64 (hFcs (x 4)) := fun B hB => by
    rw [hB]
    unfold hFcs
    rcases hq4 with h | h | h | h <;> rw [h] <;> rfl
  refine J_seq ?_
  refine J_regionP (qs := qsT) [0, 1, 2, 3, 4, 6, 7, 10, 5, 8, 9, 11] rfl (by kernel_rfl) ?_
  refine runO _ ?_
  refine ro_loadI (v := .int .i64 (hFcs (x 4))) rfl rfl .here ?_ ?_ rfl ?_
  · show _ < 4; omega
  · rw [show (0 + ((x 4 : Int) / 64).toNat) = x 4 / 64 by omega]; exact hsz _ rfl
  refine runO _ ?_
  refine ro_andN (x 4) 3 rfl rfl (by show _ < 2 ^ 63; omega) (by decide) rfl ?_
  rw [bt4]
  refine runO _ ?_
  refine ro_buildSlice1 (z := .int .i64 0) (vs := [.int .i64 0, .int .i64 1, .int .i64 2, .int .i64 4]) rfl rfl z3 rfl rfl rfl rfl hex fun ib hib => ?_
  refine runO _ ?_
  have hm4 : x 4 % 4 = 0 ∨ x 4 % 4 = 1 ∨ x 4 % 4 = 2 ∨ x 4 % 4 = 3 := by omega
  have hid : ∀ B : Blk, B = listB [.int .i64 0, .int .i64 1, .int .i64 2, .int .i64 4] 3 → B.g (x 4 % 4) = .int .i64 (hDict (x 4)) := fun B hB => by
    rw [hB]
    unfold hDict
    rcases hm4 with h | h | h | h <;> rw [h] <;> rfl
  refine ro_loadI (v := .int .i64 (hDict (x 4))) rfl rfl .here ?_ ?_ rfl ?_
  · show _ < 4; omega
  · rw [show (0 + ((x 4 % 4 : Nat) : Int).toNat) = x 4 % 4 by omega]; exact hid _ rfl
  refine runO _ ?_
  refine run _ ?_
  refine ro_andN (x 4) 4 rfl rfl (by show _ < 2 ^ 63; omega) (by decide) rfl ?_
  refine ro_neIntB (hSum (x 4)) rfl rfl (by rw [← bt3]; omega) rfl ?_
  refine runO _ ?_
  have hkn : decide (((hFcs (x 4) : Nat) : Int) > 0) = (hFcs (x 4) != 0) := by
    cases h : (hFcs (x 4) != 0) <;> simp at h ⊢ <;> omega
  rw [hkn]
  refine ro_build1 (vs := [.int .i64 0, .int .i64 0, .bool (hFcs (x 4) != 0), .bool (hSum (x 4))]) rfl rfl z54 rfl rfl rfl rfl ?_
  refine runO _ ?_
  refine ro_alloc z54 rfl hex fun hh hhh => ?_
  refine runO _ ?_
  refine ro_storeAgg (s := 3) (vs := [.int .i64 0, .int .i64 0, .bool (hFcs (x 4) != 0), .bool (hSum (x 4))]) rfl rfl rfl rfl (fun v hv => by simp only [List.mem_cons, List.not_mem_nil, or_false] at hv; rcases hv with rfl | rfl | rfl | rfl <;> rfl) .here (by decide) rfl hex ?_
  refine runO _ ?_
  refine J_cutHere [(0, .slice (some ⟨b, o, none⟩) n cp), (2, .pointer (some ⟨hr, 0, none⟩)), (5, .int .i64 (x 4)), (6, .int .i64 5), (7, .bool (hSingle (x 4))), (9, .int .i64 (hFcs (x 4))), (10, .int .i64 (hDict (x 4))), (11, .pointer (some ⟨hh, 0, none⟩))]
    [(hh, listB [.int .i64 0, .int .i64 0, .bool (hFcs (x 4) != 0), .bool (hSum (x 4))] 54), (hr, listB [.int .i64 0, .int .i64 0, .bool false, .bool false] 54), (ib, listB [.int .i64 0, .int .i64 1, .int .i64 2, .int .i64 4] 3), (sb, listB [.int .i64 ((if hSingle (x 4) then 1 else 0 : Nat) : Int), .int .i64 2, .int .i64 4, .int .i64 8] 3)] ⟨rfl, rfl, rfl, rfl, rfl, rfl, rfl, rfl, trivial⟩ ?_ ?_
  · refine .cons (blk_tab rfl rfl rfl rfl) (.of_perm ?_)
    exact (List.Perm.cons _ (List.Perm.swap _ _ _)).trans (List.Perm.swap _ _ _) |>.trans (List.Perm.refl _)
  clear f
  intro f
  refine run _ ?_
  refine ro_andN (x 4) 8 rfl rfl (by show _ < 2 ^ 63; omega) (by decide) rfl ?_
  refine runO _ ?_
  refine run _ ?_
  refine J_condP rfl (fun hres => ?_) (fun hres => ?_)
  · have hres' := bt2.1 (by omega)
    have hsp : specHdr x n = .wrong := by unfold specHdr; simp only; rw [if_pos hres']
    refine run _ ?_
    refine ro_loadAgg (s := 3) rfl rfl rfl .here (Nat.le_refl 4) rfl ?_
    refine runO _ ?_
    refine ro_storeAgg (s := 3) (vs := [.int .i64 0, .int .i64 0, .bool (hFcs (x 4) != 0), .bool (hSum (x 4))]) rfl rfl rfl rfl (fun v hv => by simp only [List.mem_cons, List.not_mem_nil, or_false] at hv; rcases hv with rfl | rfl | rfl | rfl <;> rfl) (.there .here) (Nat.le_refl 4) rfl hex ?_
    refine runO _ ?_
    refine run _ ?_
    refine J_ret ?_
    exact ends_retC [.cell 2 54, .tmp 3, .tmp 4] [.agg #[.int .i64 0, .int .i64 0, .bool (hFcs (x 4) != 0), .bool (hSum (x 4))], .int .i64 0, .int .i64 ((2 : Nat) : Int)] ⟨⟨hr, 0, 3, _, rfl, rfl, rfl, List.mem_cons_of_mem _ List.mem_cons_self, Nat.le_refl 4, rfl⟩, rfl, rfl, trivial⟩ ⟨rfl, _, _, _, _, rfl, Nat.zero_le _, by rw [hsp]⟩
  · have hres' : ¬ x 4 / 8 % 2 = 1 := fun h => hres (by have := bt2.2 h; omega)
    have hf8 : hFcs (x 4) ≤ 8 := by
      unfold hFcs
      split
      · split <;> omega
      · rcases hq4 with h | h | h | h <;> rw [h] <;> decide
    have hw1 : hWin (x 4) ≤ 1 := by unfold hWin; split <;> omega
    have hdc : hDict (x 4) ≤ 4 := by unfold hDict; split <;> omega
    have hA : hAll (x 4) = hWin (x 4) + hDict (x 4) + hFcs (x 4) := rfl
    refine J_skip ?_
    refine J_seq ?_
    refine J_cut [(0, .slice (some ⟨b, o, none⟩) n cp), (2, .pointer (some ⟨hr, 0, none⟩)), (5, .int .i64 (x 4)), (6, .int .i64 5), (7, .bool (hSingle (x 4))), (9, .int .i64 (hFcs (x 4))), (10, .int .i64 (hDict (x 4))), (11, .pointer (some ⟨hh, 0, none⟩)), (12, .int .i64 (5 + (hDict (x 4) : Int) + (hFcs (x 4) : Int)))] [(hh, listB [.int .i64 0, .int .i64 0, .bool (hFcs (x 4) != 0), .bool (hSum (x 4))] 54), (hr, listB [.int .i64 0, .int .i64 0, .bool false, .bool false] 54), (ib, listB [.int .i64 0, .int .i64 1, .int .i64 2, .int .i64 4] 3), (sb, listB [.int .i64 ((if hSingle (x 4) then 1 else 0 : Nat) : Int), .int .i64 2, .int .i64 4, .int .i64 8] 3)] ?_ ?_
    · refine run _ ?_
      show slotsOk _ _ ∧ MEqv _ _
      exact ⟨⟨rfl, rfl, rfl, rfl, rfl, rfl, rfl, rfl, rfl, trivial⟩, .refl _⟩
    clear f
    intro f
    refine J_seq ?_
    refine J_cut [(0, .slice (some ⟨b, o, none⟩) n cp), (2, .pointer (some ⟨hr, 0, none⟩)), (5, .int .i64 (x 4)), (6, .int .i64 5), (7, .bool (hSingle (x 4))), (9, .int .i64 (hFcs (x 4))), (10, .int .i64 (hDict (x 4))), (11, .pointer (some ⟨hh, 0, none⟩)), (12, .int .i64 ((5 + hAll (x 4) : Nat) : Int))] [(hh, listB [.int .i64 0, .int .i64 0, .bool (hFcs (x 4) != 0), .bool (hSum (x 4))] 54), (hr, listB [.int .i64 0, .int .i64 0, .bool false, .bool false] 54), (ib, listB [.int .i64 0, .int .i64 1, .int .i64 2, .int .i64 4] 3), (sb, listB [.int .i64 ((if hSingle (x 4) then 1 else 0 : Nat) : Int), .int .i64 2, .int .i64 4, .int .i64 8] 3)] ?_ ?_
    · refine run _ ?_
      refine ro_not rfl rfl ?_
      refine runO _ ?_
      refine run _ ?_
      refine J_cond rfl (fun hs => ?_) (fun hs => ?_)
      · have hs' : hSingle (x 4) = false := by simpa using hs
        have hwn : hWin (x 4) = 1 := by unfold hWin; rw [hs']; rfl
        refine run _ ?_
        show slotsOk _ _ ∧ MEqv _ _
        exact ⟨⟨rfl, rfl, rfl, rfl, rfl, rfl, rfl, rfl, by show Value.int _ _ = Value.int _ _; congr 1; omega, trivial⟩, .refl _⟩
      · have hs' : hSingle (x 4) = true := by simpa using hs
        have hwn : hWin (x 4) = 0 := by unfold hWin; rw [hs']; rfl
        refine run _ ?_
        show slotsOk _ _ ∧ MEqv _ _
        exact ⟨⟨rfl, rfl, rfl, rfl, rfl, rfl, rfl, rfl, by show Value.int _ _ = Value.int _ _; congr 1; omega, trivial⟩, .refl _⟩
    clear f
    intro f
    refine run _ ?_
    refine J_condP rfl (fun hlt => ?_) (fun hge => ?_)
    · have hsp : specHdr x n = .wrong := by unfold specHdr; simp only; rw [if_neg hres', if_pos (by omega)]
      refine run _ ?_
      refine ro_loadAgg (s := 3) rfl rfl rfl .here (Nat.le_refl 4) rfl ?_
      refine runO _ ?_
      refine ro_storeAgg (s := 3) (vs := [.int .i64 0, .int .i64 0, .bool (hFcs (x 4) != 0), .bool (hSum (x 4))]) rfl rfl rfl rfl (fun v hv => by simp only [List.mem_cons, List.not_mem_nil, or_false] at hv; rcases hv with rfl | rfl | rfl | rfl <;> rfl) (.there .here) (Nat.le_refl 4) rfl hex ?_
      refine runO _ ?_
      refine run _ ?_
      refine J_ret ?_
      exact ends_retC [.cell 2 54, .tmp 3, .tmp 4] [.agg #[.int .i64 0, .int .i64 0, .bool (hFcs (x 4) != 0), .bool (hSum (x 4))], .int .i64 0, .int .i64 ((2 : Nat) : Int)] ⟨⟨hr, 0, 3, _, rfl, rfl, rfl, List.mem_cons_of_mem _ List.mem_cons_self, Nat.le_refl 4, rfl⟩, rfl, rfl, trivial⟩ ⟨rfl, _, _, _, _, rfl, Nat.zero_le _, by rw [hsp]⟩
    have hge' : 5 + hAll (x 4) ≤ n := by omega
    refine J_skip ?_
    refine J_seq ?_
    refine J_cut [(0, .slice (some ⟨b, o, none⟩) n cp), (2, .pointer (some ⟨hr, 0, none⟩)), (5, .int .i64 (x 4)), (6, .int .i64 ((5 + hWin (x 4) : Nat) : Int)), (7, .bool (hSingle (x 4))), (9, .int .i64 (hFcs (x 4))), (10, .int .i64 (hDict (x 4))), (11, .pointer (some ⟨hh, 0, none⟩))] [(hh, listB [.int .i64 0, .int .i64 ((if hSingle (x 4) then 0 else hWindow (x 5) : Nat) : Int), .bool (hFcs (x 4) != 0), .bool (hSum (x 4))] 54), (hr, listB [.int .i64 0, .int .i64 0, .bool false, .bool false] 54), (ib, listB [.int .i64 0, .int .i64 1, .int .i64 2, .int .i64 4] 3), (sb, listB [.int .i64 ((if hSingle (x 4) then 1 else 0 : Nat) : Int), .int .i64 2, .int .i64 4, .int .i64 8] 3)] ?_ ?_
    · refine run _ ?_
      refine ro_not rfl rfl ?_
      refine runO _ ?_
      refine run _ ?_
      refine J_cond rfl (fun hs => ?_) (fun hs => ?_)
      · have hs' : hSingle (x 4) = false := by simpa using hs
        have hwn : hWin (x 4) = 1 := by unfold hWin; rw [hs']; rfl
        have hb5 := hx 5
        refine run _ ?_
        refine ro_loadA (v := .int .u8 (x 5)) rfl rfl (by simp [hB]) (by simp; omega) (hBg 5 (by omega)) rfl ?_
        refine runO _ ?_
        refine ro_min rfl rfl rfl ?_
        have hmin : (if (50 : Int) < 10 + (x 5 : Int) / 8 then (50 : Int) else 10 + (x 5 : Int) / 8) = ((10 + x 5 / 8 : Nat) : Int) := by rw [if_neg (by omega)]; omega
        rw [hmin]
        have hp : 2 ^ (10 + x 5 / 8) ≤ 2 ^ 41 := Nat.pow_le_pow_right (by omega) (by omega)
        refine ro_shlN (k' := .i64) 1 (10 + x 5 / 8) rfl rfl (by show _ ≤ 64; omega) (by show _ < 2 ^ 63; omega) rfl ?_
        obtain ⟨A, hAe⟩ : ∃ A, 1 * 2 ^ (10 + x 5 / 8) = A := ⟨_, rfl⟩
        have hA41 : A ≤ 2 ^ 41 := by omega
        rw [hAe]
        refine runO _ ?_
        refine run _ ?_
        have hmul : A / 8 * (x 5 % 8) ≤ 2 ^ 38 * 7 := Nat.mul_le_mul (by omega) (by omega)
        refine ro_quoN A 8 rfl rfl (by omega) (by show _ < 2 ^ 63; omega) rfl ?_
        refine runO _ ?_
        refine ro_loadA (v := .int .u8 (x 5)) rfl rfl (by simp [hB]) (by simp; omega) (hBg 5 (by omega)) rfl ?_
        refine runO _ ?_
        refine ro_andN (x 5) 7 rfl rfl (by show _ < 2 ^ 63; omega) (by decide) rfl ?_
        rw [(bits_of hb5).2.2.2.2]
        refine runO _ ?_
        refine run _ ?_
        show slotsOk _ _ ∧ MEqv _ _
        refine ⟨⟨rfl, rfl, rfl, by rw [hwn]; rfl, rfl, rfl, rfl, rfl, trivial⟩, .cons ?_ (.refl _)⟩
        have hWe : hWindow (x 5) = A + A / 8 * (x 5 % 8) := by unfold hWindow; rw [← hAe, Nat.one_mul]
        rw [hs', if_neg Bool.false_ne_true, hWe]
        exact blk_tab rfl rfl rfl rfl
      · have hs' : hSingle (x 4) = true := by simpa using hs
        have hwn : hWin (x 4) = 0 := by unfold hWin; rw [hs']; rfl
        refine run _ ?_
        show slotsOk _ _ ∧ MEqv _ _
        exact ⟨⟨rfl, rfl, rfl, by rw [hwn]; rfl, rfl, rfl, rfl, rfl, trivial⟩, .cons (by rw [hs']; rfl) (.refl _)⟩
    clear f
    intro f
    refine run _ ?_
    refine ro_slice (s := 0) (l := ((5 + hWin (x 4) : Nat) : Int)) (h := ((5 + hWin (x 4) + hDict (x 4) : Nat) : Int)) rfl rfl rfl rfl rfl (by omega) (by omega) (by omega) rfl ?_
    have hdd : DataV G (some ⟨b, sOff o (((5 + hWin (x 4) : Nat) : Int)).toNat (0 + 1) cp, none⟩) (hDict (x 4)) (cp - (5 + hWin (x 4))) (fun i => x (5 + hWin (x 4) + i)) := by
      refine ⟨by omega, .inr ⟨b, _, B, rfl, hB, ?_, ?_⟩⟩
      · intro _; unfold sOff; rw [Int.toNat_natCast]; split <;> omega
      · intro i hi
        have : sOff o (((5 + hWin (x 4) : Nat) : Int)).toNat (0 + 1) cp = o + (5 + hWin (x 4)) := by unfold sOff; rw [Int.toNat_natCast, if_neg (by omega)]; omega
        rw [this, Nat.add_assoc]
        exact hBg _ (by omega)
    have hl4 : numLow (fun i => x (5 + hWin (x 4) + i)) (hDict (x 4)) < 2 ^ 32 := Nat.lt_of_lt_of_le (numLow_lt (fun i => hx _) _) (Nat.pow_le_pow_right (by omega) (by omega))
    refine runO _ ?_
    refine ro_callT (vs := [.slice (some ⟨b, sOff o (((5 + hWin (x 4) : Nat) : Int)).toNat (0 + 1) cp, none⟩) (hDict (x 4)) (cp - (5 + hWin (x 4)))]) (numberLow_t _ _ _ _ (fun i => hx _) hdd (by omega) (by omega)) ?_ (hx := ?_)
    rotate_left
    · show [Value.slice _ (_ - _) (_ - _)] = [Value.slice _ _ _]
      rw [Int.toNat_natCast, Int.toNat_natCast]
      congr 2
      omega
    rintro v m ⟨rfl, rfl⟩
    refine runO _ ?_
    refine run _ ?_
    refine J_condP rfl (fun hnz => ?_) (fun hnz => ?_)
    · have hz : hZero x (5 + hWin (x 4)) (hDict (x 4)) = false := by
        cases hc : hZero x (5 + hWin (x 4)) (hDict (x 4)) with
        | false => rfl
        | true => exact absurd (by rw [hZero_iff.1 hc]; rfl) hnz
      have hsp : specHdr x n = .wrong := by unfold specHdr; simp only; rw [if_neg hres', if_neg (by omega), if_pos hz]
      refine go _ ?_
      refine ro_loadAgg (s := 3) rfl rfl rfl .here (Nat.le_refl 4) rfl ?_
      refine go _ ?_
      refine ro_storeAgg (s := 3) (vs := [.int .i64 0, .int .i64 ((if hSingle (x 4) then 0 else hWindow (x 5) : Nat) : Int), .bool (hFcs (x 4) != 0), .bool (hSum (x 4))]) rfl rfl rfl rfl (fun v hv => by simp only [List.mem_cons, List.not_mem_nil, or_false] at hv; rcases hv with rfl | rfl | rfl | rfl <;> rfl) (.there .here) (Nat.le_refl 4) rfl hex ?_
      refine go _ ?_
      refine J_ret ?_
      exact ends_retC [.cell 2 54, .tmp 3, .tmp 4] [.agg #[.int .i64 0, .int .i64 ((if hSingle (x 4) then 0 else hWindow (x 5) : Nat) : Int), .bool (hFcs (x 4) != 0), .bool (hSum (x 4))], .int .i64 0, .int .i64 ((2 : Nat) : Int)] ⟨⟨hr, 0, 3, _, rfl, rfl, rfl, List.mem_cons_of_mem _ List.mem_cons_self, Nat.le_refl 4, rfl⟩, rfl, rfl, trivial⟩ ⟨rfl, _, _, _, _, rfl, Nat.zero_le _, by rw [hsp]⟩
    have hz : hZero x (5 + hWin (x 4)) (hDict (x 4)) = true := hZero_iff.2 (by simp only [ne_eq, Decidable.not_not] at hnz; omega)
    refine J_skip ?_
    refine J_seq ?_
    refine J_joinK [0, 2, 7, 9, 11] [(6, .int .i64 ((5 + hWin (x 4) + hDict (x 4) : Nat) : Int))] ?_ fun f => ?_
    · refine go _ ?_
      exact joined (.refl _)
    refine J_seq ?_
    refine J_seq ?_
    refine J_joinK [0, 2, 6, 7, 9, 11] [(107, .bool (decide (hFcs (x 4) = 8 ∧ 64 ≤ x (5 + hWin (x 4) + hDict (x 4) + 7))))] ?_ fun f => ?_
    · by_cases h8 : hFcs (x 4) = 8
      · refine go _ ?_
        refine ro_splitP 100 rfl (fun _ => ?_) (fun h => absurd (by rw [h8]; rfl) h)
        have hx7 := hx (5 + hWin (x 4) + hDict (x 4) + 7)
        refine go _ ?_
        refine ro_loadA (v := .int .u8 (x (5 + hWin (x 4) + hDict (x 4) + 7))) rfl rfl (by simp [hB]) (by omega) (hBg _ (by omega)) rfl ?_
        refine go _ ?_
        show slotsOk _ (_ :: _) ∧ MEqv _ _
        refine ⟨⟨?_, ?_⟩, .refl _⟩
        · show Value.bool (decide _) = Value.bool (decide _)
          congr 1
          exact decide_eq_decide.2 ⟨fun h => ⟨h8, by omega⟩, fun h => by omega⟩
        · repeat (first | exact trivial | refine ⟨by exact rfl, ?_⟩)
      · refine go _ ?_
        refine ro_splitP 100 rfl (fun h => absurd h (by omega)) (fun _ => ?_)
        refine go _ ?_
        show slotsOk _ (_ :: _) ∧ MEqv _ _
        refine ⟨⟨?_, ?_⟩, .refl _⟩
        · show Value.bool false = Value.bool (decide _)
          congr 1
          exact (decide_eq_false fun h => h8 h.1).symm
        · repeat (first | exact trivial | refine ⟨by exact rfl, ?_⟩)
    refine J_condP rfl (fun hop => ?_) (fun hop => ?_)
    · have hsp : specHdr x n = .open_ := by unfold specHdr; simp only; rw [if_neg hres', if_neg (by omega), if_neg (by rw [hz]; decide), if_pos hop]
      refine go _ ?_
      refine ro_loadAgg (s := 3) rfl rfl rfl .here (Nat.le_refl 4) rfl ?_
      refine go _ ?_
      refine ro_storeAgg (s := 3) (vs := [.int .i64 0, .int .i64 ((if hSingle (x 4) then 0 else hWindow (x 5) : Nat) : Int), .bool (hFcs (x 4) != 0), .bool (hSum (x 4))]) rfl rfl rfl rfl (fun v hv => by simp only [List.mem_cons, List.not_mem_nil, or_false] at hv; rcases hv with rfl | rfl | rfl | rfl <;> rfl) (.there .here) (Nat.le_refl 4) rfl hex ?_
      refine go _ ?_
      refine J_ret ?_
      exact ends_retC [.cell 2 54, .tmp 3, .tmp 4] [.agg #[.int .i64 0, .int .i64 ((if hSingle (x 4) then 0 else hWindow (x 5) : Nat) : Int), .bool (hFcs (x 4) != 0), .bool (hSum (x 4))], .int .i64 0, .int .i64 ((0 : Nat) : Int)] ⟨⟨hr, 0, 3, _, rfl, rfl, rfl, List.mem_cons_of_mem _ List.mem_cons_self, Nat.le_refl 4, rfl⟩, rfl, rfl, trivial⟩ ⟨rfl, _, _, _, _, rfl, Nat.zero_le _, by rw [hsp]⟩
    refine J_skip ?_
    refine J_seq ?_
    have hnl : numLow (fun i => x (5 + hWin (x 4) + hDict (x 4) + i)) (hFcs (x 4)) < 2 ^ 62 := numLow_62 (fun i => hx _) hf8 (fun h => by have := hx (5 + hWin (x 4) + hDict (x 4) + 7); omega)
    have hfz : hFcs (x 4) = 0 ∨ hFcs (x 4) = 1 ∨ hFcs (x 4) = 2 ∨ hFcs (x 4) = 4 ∨ hFcs (x 4) = 8 := by
      unfold hFcs
      split
      · split <;> simp
      · rcases hq4 with h | h | h | h <;> rw [h] <;> simp
    have hSz : hSize x (x 4) (5 + hWin (x 4) + hDict (x 4)) = numLow (fun i => x (5 + hWin (x 4) + hDict (x 4) + i)) (hFcs (x 4)) + if hFcs (x 4) = 2 then 256 else 0 := hSize_numLow hfz
    generalize hP : 5 + hWin (x 4) + hDict (x 4) = p at *
    generalize hNL : numLow (fun i => x (p + i)) (hFcs (x 4)) = nl at *
    refine J_join [0, 2, 6, 7, 9, 11] [] [(hh, listB [.int .i64 (nl : Nat), .int .i64 ((if hSingle (x 4) then 0 else hWindow (x 5) : Nat) : Int), .bool (hFcs (x 4) != 0), .bool (hSum (x 4))] 54), (hr, listB [.int .i64 0, .int .i64 0, .bool false, .bool false] 54), (ib, listB [.int .i64 0, .int .i64 1, .int .i64 2, .int .i64 4] 3), (sb, listB [.int .i64 ((if hSingle (x 4) then 1 else 0 : Nat) : Int), .int .i64 2, .int .i64 4, .int .i64 8] 3)] ?_ fun f => ?_
    · refine go _ ?_
      refine ro_slice (s := 0) (l := (p : Int)) (h := ((p + hFcs (x 4) : Nat) : Int)) rfl rfl rfl rfl rfl (by omega) (by omega) (by omega) rfl ?_
      have hdd : DataV G (some ⟨b, sOff o ((p : Int)).toNat (0 + 1) cp, none⟩) (hFcs (x 4)) (cp - p) (fun i => x (p + i)) := by
        refine ⟨by omega, .inr ⟨b, _, B, rfl, hB, ?_, ?_⟩⟩
        · intro _; unfold sOff; rw [Int.toNat_natCast]; split <;> omega
        · intro i hi
          have : sOff o ((p : Int)).toNat (0 + 1) cp = o + p := by unfold sOff; rw [Int.toNat_natCast, if_neg (by omega)]; omega
          rw [this, Nat.add_assoc]
          exact hBg _ (by omega)
      refine go _ ?_
      refine ro_callT (vs := [.slice (some ⟨b, sOff o ((p : Int)).toNat (0 + 1) cp, none⟩) (hFcs (x 4)) (cp - p)]) (numberLow_t _ _ _ _ (fun i => hx _) hdd (by omega) (by omega)) ?_ (hx := ?_)
      rotate_left
      · show [Value.slice _ (_ - _) (_ - _)] = [Value.slice _ _ _]
        rw [Int.toNat_natCast, Int.toNat_natCast]
        congr 2
        omega
      rintro v m ⟨rfl, rfl⟩
      rw [hNL]
      refine go _ ?_
      exact joined (.cons (blk_tab rfl rfl rfl rfl) (.refl _))
    refine J_seq ?_
    refine J_join [2, 6, 7, 9, 11] [] [(hh, listB [.int .i64 (hSize x (x 4) p : Nat), .int .i64 ((if hSingle (x 4) then 0 else hWindow (x 5) : Nat) : Int), .bool (hFcs (x 4) != 0), .bool (hSum (x 4))] 54), (hr, listB [.int .i64 0, .int .i64 0, .bool false, .bool false] 54), (ib, listB [.int .i64 0, .int .i64 1, .int .i64 2, .int .i64 4] 3), (sb, listB [.int .i64 ((if hSingle (x 4) then 1 else 0 : Nat) : Int), .int .i64 2, .int .i64 4, .int .i64 8] 3)] ?_ fun f => ?_
    · refine go _ ?_
      refine J_condP rfl (fun h2 => ?_) (fun h2 => ?_)
      · refine go _ ?_
        have h2' : hFcs (x 4) = 2 := by omega
        rw [if_pos h2'] at hSz
        exact joined (.cons (by rw [hSz]; exact blk_tab rfl rfl rfl rfl) (.refl _))
      · refine go _ ?_
        rw [if_neg (by omega), Nat.add_zero] at hSz
        exact joined (.cons (by rw [hSz]) (.refl _))
    have hsl : hSize x (x 4) p < 2 ^ 62 + 256 := by rw [hSz]; split <;> omega
    generalize hSV : hSize x (x 4) p = sz at *
    refine J_seq ?_
    refine J_join [2, 6, 9, 11] [] [(hh, listB [.int .i64 (sz : Nat), .int .i64 ((if hSingle (x 4) then sz else hWindow (x 5) : Nat) : Int), .bool (hFcs (x 4) != 0), .bool (hSum (x 4))] 54), (hr, listB [.int .i64 0, .int .i64 0, .bool false, .bool false] 54), (ib, listB [.int .i64 0, .int .i64 1, .int .i64 2, .int .i64 4] 3), (sb, listB [.int .i64 ((if hSingle (x 4) then 1 else 0 : Nat) : Int), .int .i64 2, .int .i64 4, .int .i64 8] 3)] ?_ fun f => ?_
    · refine go _ ?_
      refine J_cond rfl (fun hs => ?_) (fun hs => ?_)
      · have hs' : hSingle (x 4) = true := hs
        refine go _ ?_
        exact joined (.cons (by rw [hs']; exact blk_tab rfl rfl rfl rfl) (.refl _))
      · have hs' : hSingle (x 4) = false := hs
        refine go _ ?_
        exact joined (.cons (by rw [hs']; rfl) (.refl _))
    have hsp0 : specHdr x n = if 8388608 < (if hSingle (x 4) then sz else hWindow (x 5)) then .open_ else .right sz (if hSingle (x 4) then sz else hWindow (x 5)) (5 + hAll (x 4)) := by
      unfold specHdr; simp only; rw [if_neg hres', if_neg (by omega), if_neg (by rw [hz]; decide), hP, if_neg hop, hSV]
    generalize hWV : (if hSingle (x 4) then sz else hWindow (x 5)) = wn at *
    refine go _ ?_
    refine J_condP rfl (fun hw => ?_) (fun hw => ?_)
    · rw [if_pos (by omega)] at hsp0
      refine go _ ?_
      refine ro_loadAgg (s := 3) rfl rfl rfl .here (Nat.le_refl 4) rfl ?_
      refine go _ ?_
      refine ro_storeAgg (s := 3) (vs := [.int .i64 (sz : Nat), .int .i64 (wn : Nat), .bool (hFcs (x 4) != 0), .bool (hSum (x 4))]) rfl rfl rfl rfl (fun v hv => by simp only [List.mem_cons, List.not_mem_nil, or_false] at hv; rcases hv with rfl | rfl | rfl | rfl <;> rfl) (.there .here) (Nat.le_refl 4) rfl hex ?_
      refine go _ ?_
      refine J_ret ?_
      exact ends_retC [.cell 2 54, .tmp 3, .tmp 4] [.agg #[.int .i64 (sz : Nat), .int .i64 (wn : Nat), .bool (hFcs (x 4) != 0), .bool (hSum (x 4))], .int .i64 0, .int .i64 ((0 : Nat) : Int)] ⟨⟨hr, 0, 3, _, rfl, rfl, rfl, List.mem_cons_of_mem _ List.mem_cons_self, Nat.le_refl 4, rfl⟩, rfl, rfl, trivial⟩ ⟨rfl, _, _, _, _, rfl, Nat.zero_le _, by rw [hsp0]⟩
    · rw [if_neg (by omega)] at hsp0
      refine go _ ?_
      refine ro_loadAgg (s := 3) rfl rfl rfl .here (Nat.le_refl 4) rfl ?_
      refine go _ ?_
      refine ro_storeAgg (s := 3) (vs := [.int .i64 (sz : Nat), .int .i64 (wn : Nat), .bool (hFcs (x 4) != 0), .bool (hSum (x 4))]) rfl rfl rfl rfl (fun v hv => by simp only [List.mem_cons, List.not_mem_nil, or_false] at hv; rcases hv with rfl | rfl | rfl | rfl <;> rfl) (.there .here) (Nat.le_refl 4) rfl hex ?_
      refine go _ ?_
      refine J_ret ?_
      exact ends_retC [.cell 2 54, .tmp 3, .tmp 4] [.agg #[.int .i64 (sz : Nat), .int .i64 (wn : Nat), .bool (hFcs (x 4) != 0), .bool (hSum (x 4))], .int .i64 ((p + hFcs (x 4) : Nat) : Int), .int .i64 ((1 : Nat) : Int)] ⟨⟨hr, 0, 3, _, rfl, rfl, rfl, List.mem_cons_of_mem _ List.mem_cons_self, Nat.le_refl 4, rfl⟩, rfl, rfl, trivial⟩ ⟨rfl, _, _, _, _, rfl, by omega, by rw [hsp0]; exact ⟨rfl, rfl, rfl, by omega⟩⟩
end Go.Proofs.YtogmacnlpclgkaaDoor
