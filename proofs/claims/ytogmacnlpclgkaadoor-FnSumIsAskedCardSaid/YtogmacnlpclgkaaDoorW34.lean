/-
  TEXTS MERGED: W32, W33.
-/
import Derived.Test.YtogmacnlpclgkaaDoorW29
import Derived.Test.YtogmacnlpclgkaaDoorW30
/-! WALKS 32: THE REFERENCE: the checksum. -/
namespace Go.Proofs.YtogmacnlpclgkaaDoor
open Go Go.Eng
attribute [local irreducible] RO J Trip Quiet
set_option maxRecDepth 20000
variable {G : Mem}

/-- The number of so many bytes, the lowest one first. -/
def nlow (z : Nat → Nat) : Nat → Nat
  | 0 => 0
  | n + 1 => nlow z n + z n * 2 ^ (8 * n)
theorem nlow_lt {z : Nat → Nat} (hz : ∀ i, z i < 256) : ∀ n, nlow z n < 2 ^ (8 * n)
  | 0 => by simp [nlow]
  | n + 1 => by
    have ih := nlow_lt hz n
    have h1 : z n * 2 ^ (8 * n) ≤ 255 * 2 ^ (8 * n) := Nat.mul_le_mul_right _ (by have := hz n; omega)
    have h2 : 2 ^ (8 * (n + 1)) = 256 * 2 ^ (8 * n) := by rw [show 8 * (n + 1) = 8 * n + 8 by omega, Nat.pow_add]; omega
    rw [nlow, h2]; omega
theorem or_add {a b j : Nat} (h : a < 2 ^ j) : a ||| (b * 2 ^ j) = a + b * 2 ^ j := by
  have := Nat.shiftLeft_add_eq_or_of_lt h b
  rw [Nat.shiftLeft_eq] at this
  rw [Nat.or_comm, ← this]; omega
theorem nlow_4 (z : Nat → Nat) : nlow z 4 = le4 z := by
  simp only [nlow, Nat.reduceMul, Nat.reducePow, Nat.mul_zero, Nat.pow_zero, Nat.mul_one, Nat.zero_add]
  rfl
theorem nlow_8 (z : Nat → Nat) : nlow z 8 = le8 z := by
  simp only [nlow, Nat.reduceMul, Nat.reducePow, Nat.mul_zero, Nat.pow_zero, Nat.mul_one, Nat.zero_add]
  unfold le8 le4
  simp only [Nat.zero_add, Nat.reduceAdd]
  omega

theorem wlow_q {m : Mem} {oa : Option Addr} {n cp : Nat} {z : Nat → Nat} (hv : View (m ++ G) oa n cp z) (hz : ∀ i, z i < 256) (hn : n ≤ 8) : Quiet Tryd.prog G 31 #[.slice oa n cp] m (.int .u64 (nlow z n : Nat)) := by
  refine Quiet_of Tryd.func31 rfl (by show 1 ≤ _; decide) (args := [.slice oa n cp]) fun c h0 => ?_
  refine go _ ?_
  refine J_loopL (σ := Nat) [] (fun i => [(3, .int .u64 (nlow z i : Nat)), (6, .slice oa n cp), (7, .int .i64 (n : Nat)), (8, .int .i64 (i : Nat))]) (fun _ => []) (fun i => i ≤ n) (fun i => n - i) 0 (.refl _) (Nat.zero_le _) ?_
  intro i f hi
  refine go _ ?_
  refine J_condP rfl (fun hlt => ?_) (fun hge => ?_)
  · have hin : i < n := by omega
    obtain ⟨b, o, rfl⟩ := hv.some (by omega)
    have hb := hz i
    have h1 := nlow_lt hz i
    have h2 := nlow_lt hz (i + 1)
    rw [nlow] at h2
    have h3 : 2 ^ (8 * (i + 1)) ≤ 2 ^ 64 := Nat.pow_le_pow_right (by omega) (by omega)
    refine go _ ?_
    refine ro_orN (nlow z i) (z i * 2 ^ (8 * i)) rfl rfl (by show _ < 2 ^ 64; omega) (by show _ < 2 ^ 64; omega) rfl ?_
    rw [or_add h1]
    refine go _ ?_
    exact ⟨i + 1, by omega, by omega, ⟨rfl, rfl, rfl, rfl, trivial⟩, .refl _⟩
  · obtain rfl : i = n := by omega
    refine go _ ?_
    refine J_ret ?_
    exact ends_ret [2] rfl (post := []) (junk := []) (.refl _) rfl

theorem round_q {m : Mem} {V : Int} (v : Nat) {n : Nat} (hV : V = (v : Int)) : Quiet Tryd.prog G 30 #[.int .u64 V, .int .u64 n] m (.int .u64 (xrnd v n)) := by
  subst hV
  refine Quiet_of Tryd.func30 rfl (by show 2 ≤ _; decide) (args := [.int .u64 v, .int .u64 n]) fun c h0 => ?_
  refine go _ ?_
  refine ro_mulU rfl rfl rfl xp2_eq rfl rfl ?_
  rw [q64_bits]
  refine go _ ?_
  refine ro_addU rfl rfl rfl rfl rfl rfl ?_
  rw [q64_bits]
  refine go _ ?_
  refine ro_callQT (rot_q (K := 31) 31 rfl (q64_lt _) (by decide)) ?_
  refine go _ ?_
  refine ro_mulU rfl rfl rfl xp1_eq rfl rfl ?_
  rw [q64_bits]
  refine go _ ?_
  refine J_ret ?_
  exact ends_ret [4] rfl (post := []) (junk := []) (.refl _) rfl

theorem xp5_lt : xp5 < q64 := by rw [q64_eq]; unfold xp5; decide
/-- The accumulators brought together, so many of them. -/
def xmN (V : Nat → Nat) (h : Nat) : Nat → Nat
  | 0 => h
  | i + 1 => xmrg (xmN V h i) (V i)
theorem xmN_lt (V : Nat → Nat) {h : Nat} (hh : h < q64) : ∀ i, xmN V h i < q64
  | 0 => hh
  | _ + 1 => xmrg_lt _ _
theorem xacc_lt (T : Nat → Nat) (n i : Nat) (hi : i < 4) : xacc T n i < q64 := by
  cases n with
  | zero => rw [q64_eq]; match i, hi with
    | 0, _ => show 6983438078262162902 < _; decide
    | 1, _ => show 14029467366897019727 < _; decide
    | 2, _ => show 0 < _; decide
    | 3, _ => show 7046029288634856825 < _; decide
  | succ n => rw [xacc_succ]; exact xrnd_lt _ _
theorem ini_blk (T : TypeId) : ((⟨4, blit (listG [.int .u64 0, .int .u64 0, .int .u64 0, .int .u64 0]) 0 (3 + 1) (listG [.int .u64 11400714785074694791, .int .u64 14029467366897019727, .int .u64 0, .int .u64 7046029288634856825]), T, (0, 0)⟩ : Blk).st (0 + 0) (.int .u64 6983438078262162902)).obj = (arrB .u64 4 xini T).obj := by
  show (⟨4, upd (blit (listG [.int .u64 0, .int .u64 0, .int .u64 0, .int .u64 0]) 0 (3 + 1) (listG [.int .u64 11400714785074694791, .int .u64 14029467366897019727, .int .u64 0, .int .u64 7046029288634856825])) 0 (.int .u64 6983438078262162902), T, (0, 0)⟩ : Blk).obj = (arrB .u64 4 xini T).obj
  refine obj_congr fun i hi => ?_
  match i, hi with
  | 0, _ => rfl
  | 1, _ => rfl
  | 2, _ => rfl
  | 3, _ => rfl
/-- A stripe, so many of its four parts. -/
def xpart (T : Nat → Nat) (n i : Nat) : Nat → Nat := fun j => if j < i then xacc T (n + 1) j else xacc T n j
theorem xpart_0 (T : Nat → Nat) (n : Nat) (t : TypeId) : (arrB .u64 4 (xacc T n) t).obj = (arrB .u64 4 (xpart T n 0) t).obj := obj_congr fun i _ => by
  show Value.int .u64 ((xacc T n i : Nat) : Int) = Value.int .u64 ((xpart T n 0 i : Nat) : Int)
  unfold xpart; rw [if_neg (by omega)]
theorem xpart_4 (T : Nat → Nat) (n : Nat) (t : TypeId) : (arrB .u64 4 (xpart T n 4) t).obj = (arrB .u64 4 (xacc T (n + 1)) t).obj := obj_congr fun i hi => by
  have hi : i < 4 := hi
  show Value.int .u64 ((xpart T n 4 i : Nat) : Int) = Value.int .u64 ((xacc T (n + 1) i : Nat) : Int)
  unfold xpart; rw [if_pos hi]
theorem xpart_at (T : Nat → Nat) (n i : Nat) : xpart T n i i = xacc T n i := if_neg (Nat.lt_irrefl _)
theorem xpart_st (T : Nat → Nat) (n i o : Nat) (ho : o = i) (t : TypeId) : (arrB .u64 4 (updN (xpart T n i) o (xrnd (xacc T n i) (le8 fun j => T (32 * n + (8 * i + j))))) t).obj = (arrB .u64 4 (xpart T n (i + 1)) t).obj := obj_congr fun j _ => by
  subst ho
  show Value.int .u64 ((updN (xpart T n o) o _ j : Nat) : Int) = Value.int .u64 ((xpart T n (o + 1) j : Nat) : Int)
  by_cases h : j = o
  · subst h
    rw [updN_same]
    unfold xpart; rw [if_pos (by omega)]; rfl
  · rw [updN_other _ _ _ _ h]
    unfold xpart
    by_cases h2 : j < o
    · rw [if_pos h2, if_pos (by omega)]
    · rw [if_neg h2, if_neg (by omega)]

theorem arr4_get (V : Nat → Nat) (i : Nat) (hi : i < 4) : ([.int .u64 (V 0 : Nat), .int .u64 (V 1 : Nat), .int .u64 (V 2 : Nat), .int .u64 (V 3 : Nat)] : List Value)[i]? = some (.int .u64 ((V i : Nat) : Int)) := by
  match i, hi with
  | 0, _ => rfl
  | 1, _ => rfl
  | 2, _ => rfl
  | 3, _ => rfl

theorem sum64_t (oa : Option Addr) (L cp : Nat) (tx : Nat → Nat) (hx : ∀ i, tx i < 256) (hv : View G oa L cp tx) (hL : L ≤ 2 ^ 31) :
    Trip Tryd.prog G 26 #[.slice oa L cp] [] (fun v _ => v = .int .u64 (xdig tx L : Nat)) := by
  refine Trip_of Tryd.func26 rfl (by show 1 ≤ _; decide) (args := [.slice oa L cp]) fun c h0 hex => ?_
  have hcp := hv.le
  have hLq : L % q64 = L := Nat.mod_eq_of_lt (by rw [q64_eq]; omega)
  have hmod := Nat.div_add_mod L 32
  refine go _ ?_
  refine J_joinE (σ := Nat × (Option Addr × Nat) × Mem) [] (fun t => [(0, .slice t.2.1.1 (L % 32) t.2.1.2), (3, .int .u64 (L : Nat)), (4, .int .u64 (t.1 : Nat))]) (fun t => t.2.2)
    (fun t => (t.1 + L) % q64 = xhead (xacc tx (L / 32)) L ∧ t.1 < q64 ∧ View G t.2.1.1 (L % 32) t.2.1.2 (fun i => tx (32 * (L / 32) + i))) ?_ ?_
  · refine J_condP rfl (fun hge => ?_) (fun hlt => ?_)
    · refine go _ ?_
      refine ro_bin (op := .sub) (v := .int .u64 7046029288634856825) rfl rfl rfl rfl ?_
      refine ro_buildArr (vs := [.int .u64 11400714785074694791, .int .u64 14029467366897019727, .int .u64 0, .int .u64 7046029288634856825]) rfl rfl z85 rfl rfl rfl rfl ?_
      refine ro_alloc z85 rfl hex fun ab hab => ?_
      refine ro_storeAgg (s := 3) (vs := [.int .u64 11400714785074694791, .int .u64 14029467366897019727, .int .u64 0, .int .u64 7046029288634856825]) rfl rfl rfl rfl (fun v hv => by simp only [List.mem_cons, List.not_mem_nil, or_false] at hv; rcases hv with rfl | rfl | rfl | rfl <;> rfl) .here (Nat.le_refl 4) rfl hex ?_
      refine go _ ?_
      refine ro_bin (op := .add) (v := .int .u64 6983438078262162902) rfl rfl rfl rfl ?_
      refine ro_ixA1 (i := 0) rfl rfl rfl rfl rfl (by decide) rfl ?_
      refine ro_storeI rfl rfl rfl rfl .here (by show 0 < 4; decide) rfl hex ?_
      refine go _ ?_
      refine J_loopL (σ := Nat × (Option Addr × Nat)) [] (fun t => [(0, .slice t.2.1 (L - 32 * t.1) t.2.2), (3, .int .u64 (L : Nat)), (6, .pointer (some ⟨ab, 0, none⟩))]) (fun t => [(ab, arrB .u64 4 (xacc tx t.1) 85)])
        (fun t => 32 * t.1 ≤ L ∧ View G t.2.1 (L - 32 * t.1) t.2.2 (fun i => tx (32 * t.1 + i))) (fun t => L - 32 * t.1) (0, (oa, cp)) (.cons (ini_blk _) .nil) ⟨Nat.zero_le _, hv.congr fun i hi => by rw [Nat.mul_zero, Nat.zero_add]⟩ ?_
      rintro ⟨n, ⟨oa1, cp1⟩⟩ f ⟨hn, hv1⟩
      dsimp only at hn hv1 ⊢
      have hcp1 := hv1.le
      refine go _ ?_
      refine J_condP rfl (fun hge1 => ?_) (fun hlt1 => ?_)
      · refine go _ ?_
        refine J_loopL (σ := Nat) [] (fun i => [(0, .slice oa1 (L - 32 * n) cp1), (3, .int .u64 (L : Nat)), (6, .pointer (some ⟨ab, 0, none⟩)), (30, .int .i64 (i : Nat))]) (fun i => [(ab, arrB .u64 4 (xpart tx n i) 85)]) (fun i => i ≤ 4) (fun i => 4 - i) 0 (.cons (xpart_0 _ _ _) .nil) (Nat.zero_le _) ?_
        intro i f hi
        refine go _ ?_
        refine J_condP rfl (fun hi4 => ?_) (fun hi4 => ?_)
        · refine go _ ?_
          refine ro_slV (8 * i) (8 * i + 8) hv1 rfl rfl rfl rfl rfl rfl rfl (by omega) (by omega) rfl ?_
          have hvs := hv1.sub (l := 8 * i) (h := 8 * i + 8) (by omega) (by omega)
          refine go _ ?_
          refine ro_callQT (wlow_q hvs.add (fun _ => hx _) (by omega)) ?_
          rw [show 8 * i + 8 - 8 * i = 8 by omega, nlow_8]
          refine go _ ?_
          refine ro_callQT (round_q (xpart tx n i (0 + i)) rfl) ?_
          rw [show xpart tx n i (0 + i) = xacc tx n i by rw [Nat.zero_add]; exact xpart_at tx n i]
          refine go _ ?_
          exact ⟨i + 1, by omega, by omega, ⟨rfl, rfl, rfl, rfl, trivial⟩, .cons (xpart_st _ _ _ _ (Nat.zero_add i) _) .nil⟩
        · obtain rfl : i = 4 := by omega
          refine go _ ?_
          refine ro_slV 32 (L - 32 * n) hv1 rfl rfl rfl rfl rfl rfl rfl (by omega) hcp1 rfl ?_
          refine go _ ?_
          refine ⟨(n + 1, (subA oa1 32 cp1, cp1 - 32)), by dsimp only; omega, ⟨by dsimp only; omega, ?_⟩, ⟨by show Value.slice _ (L - 32 * n - 32) _ = Value.slice _ (L - 32 * (n + 1)) _; rw [show L - 32 * n - 32 = L - 32 * (n + 1) by omega], rfl, rfl, trivial⟩, .cons (xpart_4 _ _ _) .nil⟩
          have := hv1.sub (l := 32) (h := L - 32 * n) (by omega) (Nat.le_refl _)
          rw [show L - 32 * n - 32 = L - 32 * (n + 1) by omega] at this
          exact this.congr fun i _ => by
            show tx (32 * n + (32 + i)) = tx (32 * (n + 1) + i)
            congr 1; omega
      · have hn' : n = L / 32 := by omega
        subst hn'
        have hV := xacc_lt tx (L / 32)
        generalize hVe : xacc tx (L / 32) = V at hV
        refine go _ ?_
        refine ro_callQT (rot_q (K := 1) 1 rfl (hV 0 (by decide)) (by decide)) ?_
        refine go _ ?_
        refine ro_callQT (rot_q (K := 7) 7 rfl (hV 1 (by decide)) (by decide)) ?_
        refine go _ ?_
        refine ro_addU rfl rfl rfl rfl rfl rfl ?_
        rw [q64_bits]
        refine go _ ?_
        refine ro_callQT (rot_q (K := 12) 12 rfl (hV 2 (by decide)) (by decide)) ?_
        refine go _ ?_
        refine ro_addU rfl rfl rfl rfl rfl rfl ?_
        rw [q64_bits]
        refine go _ ?_
        refine ro_callQT (rot_q (K := 18) 18 rfl (hV 3 (by decide)) (by decide)) ?_
        refine go _ ?_
        refine ro_addU rfl rfl rfl rfl rfl rfl ?_
        rw [q64_bits]
        refine go _ ?_
        refine ro_loadAgg (s := 3) rfl rfl rfl .here (Nat.le_refl 4) rfl ?_
        obtain ⟨hs, hse⟩ : ∃ hs, hs = (((rotl (V 0) 1 + rotl (V 1) 7) % q64 + rotl (V 2) 12) % q64 + rotl (V 3) 18) % q64 := ⟨_, rfl⟩
        have hsq : hs < q64 := by rw [hse]; exact q64_lt _
        rw [← hse]
        refine go _ ?_
        refine J_loopL (σ := Nat) [] (fun i => [(0, .slice oa1 (L - 32 * (L / 32)) cp1), (3, .int .u64 (L : Nat)), (4, .int .u64 (xmN V hs i : Nat)), (63, .agg #[.int .u64 (V 0 : Nat), .int .u64 (V 1 : Nat), .int .u64 (V 2 : Nat), .int .u64 (V 3 : Nat)]), (64, .int .i64 (i : Nat))]) (fun _ => [(ab, arrB .u64 4 V 85)]) (fun i => i ≤ 4) (fun i => 4 - i) 0 (.refl _) (Nat.zero_le _) ?_
        intro i f hi
        refine go _ ?_
        refine J_condP rfl (fun hi4 => ?_) (fun hi4 => ?_)
        · have hi5 : i < 4 := by omega
          refine go _ ?_
          refine ro_indexP (vs := [.int .u64 (V 0 : Nat), .int .u64 (V 1 : Nat), .int .u64 (V 2 : Nat), .int .u64 (V 3 : Nat)]) rfl rfl rfl rfl rfl rfl hi5 (arr4_get V i hi5) rfl ?_
          refine go _ ?_
          refine ro_callQT (round_q (V := 0) 0 rfl) ?_
          refine go _ ?_
          refine ro_xorZ rfl rfl rfl rfl (lt64 (xmN_lt V hsq _)) (lt64 (xrnd_lt _ _)) rfl ?_
          refine go _ ?_
          refine ro_mulU rfl rfl rfl xp1_eq rfl rfl ?_
          rw [q64_bits]
          refine ro_addU rfl rfl rfl xp4_eq rfl rfl ?_
          rw [q64_bits]
          have hst : ((xmN V hs i ^^^ xrnd 0 (V i)) * xp1 % q64 + xp4) % q64 = xmN V hs (i + 1) := rfl
          rw [hst]
          refine go _ ?_
          exact ⟨i + 1, by omega, by omega, ⟨rfl, rfl, rfl, rfl, rfl, trivial⟩, .refl _⟩
        · obtain rfl : i = 4 := by omega
          have hl : L - 32 * (L / 32) = L % 32 := by omega
          rw [hl] at hv1 ⊢
          refine go _ ?_
          refine ⟨(xmN V hs 4, (oa1, cp1), [(ab, arrB .u64 4 V 85)]), ⟨?_, xmN_lt V hsq _, hv1⟩, ⟨rfl, rfl, rfl, trivial⟩, .refl _⟩
          unfold xhead
          rw [if_neg (by omega)]
          have : xmN V hs 4 = xsum V := by rw [hse]; rfl
          rw [← this]
    · have h0d : L / 32 = 0 := by omega
      have hm : L % 32 = L := by omega
      refine go _ ?_
      refine ⟨(xp5, (oa, cp), []), ⟨?_, xp5_lt, ?_⟩, ⟨by rw [hm]; rfl, rfl, by show Value.int .u64 2870177450012600261 = Value.int .u64 ((xp5 : Nat) : Int); rw [xp5_eq], trivial⟩, .refl _⟩
      · unfold xhead
        rw [h0d, if_pos (by omega)]
        show (xp5 + L) % q64 = ((0 + xp5) % q64 + L) % q64
        rw [Nat.zero_add, Nat.mod_eq_of_lt xp5_lt]
      · rw [hm, h0d]
        exact hv.congr fun i hi => by rw [Nat.mul_zero, Nat.zero_add]
  rintro ⟨hh, ⟨oa1, cp1⟩, J1⟩ f ⟨h1, h2, h3⟩
  dsimp only at h1 h2 h3 ⊢
  refine go _ ?_
  refine ro_addU rfl rfl rfl rfl rfl rfl ?_
  rw [q64_bits, h1]
  have hxh : xhead (xacc tx (L / 32)) L < q64 := q64_lt _
  have hfin : xdig tx L = xfin (xtail (fun i => tx (32 * (L / 32) + i)) (xhead (xacc tx (L / 32)) L) (L % 32)) := by unfold xdig; rw [hLq]
  rw [hfin]
  clear hfin h1 hv hcp h2 hmod
  generalize xhead (xacc tx (L / 32)) L = h1 at hxh ⊢
  have hby : ∀ i, tx (32 * (L / 32) + i) < 256 := fun i => hx _
  generalize hT : (fun i => tx (32 * (L / 32) + i)) = T at h3 ⊢
  have hby : ∀ i, T i < 256 := fun i => by rw [← hT]; exact hby i
  clear hT
  have hr32 : L % 32 < 32 := Nat.mod_lt _ (by omega)
  generalize L % 32 = r at h3 hr32 ⊢
  refine go _ ?_
  refine J_loopL (σ := Nat × (Option Addr × Nat)) [] (fun t => [(0, .slice t.2.1 (r - 8 * t.1) t.2.2), (4, .int .u64 (xt8 T h1 t.1 : Nat))]) (fun _ => J1)
    (fun t => 8 * t.1 ≤ r ∧ View G t.2.1 (r - 8 * t.1) t.2.2 (fun i => T (8 * t.1 + i))) (fun t => r - 8 * t.1) (0, (oa1, cp1)) (.refl _) ⟨Nat.zero_le _, h3.congr fun i hi => by rw [Nat.mul_zero, Nat.zero_add]⟩ ?_
  clear h3 oa1 cp1
  rintro ⟨j, ⟨oa1, cp1⟩⟩ f ⟨hj, hv1⟩
  dsimp only at hj hv1 ⊢
  have hcp := hv1.le
  refine go _ ?_
  refine J_condP rfl (fun hg => ?_) (fun hg => ?_)
  · refine go _ ?_
    refine ro_slVT 8 hv1 rfl rfl rfl rfl rfl (by omega) rfl ?_
    refine go _ ?_
    refine ro_callQT (wlow_q (hv1.cut (h := 8) (by omega)).add (fun _ => hby _) (by omega)) ?_
    rw [nlow_8]
    refine go _ ?_
    refine ro_callQT (round_q (V := 0) 0 rfl) ?_
    refine go _ ?_
    refine ro_xorZ rfl rfl rfl rfl (lt64 (xt8_lt _ hxh _)) (lt64 (xrnd_lt _ _)) rfl ?_
    refine go _ ?_
    refine ro_callQT (rot_q (K := 27) 27 rfl (xor64 (xt8_lt _ hxh _) (xrnd_lt _ _)) (by decide)) ?_
    refine ro_mulU rfl rfl rfl xp1_eq rfl rfl ?_
    rw [q64_bits]
    refine ro_addU rfl rfl rfl xp4_eq rfl rfl ?_
    rw [q64_bits]
    have hst : (rotl (xt8 T h1 j ^^^ xrnd 0 (le8 fun i => T (8 * j + i))) 27 * xp1 % q64 + xp4) % q64 = xt8 T h1 (j + 1) := by rw [xt8]; rfl
    rw [hst]
    refine go _ ?_
    refine ro_slV 8 (r - 8 * j) hv1 rfl rfl rfl rfl rfl rfl rfl (by omega) hcp rfl ?_
    rw [show r - 8 * j - 8 = r - 8 * (j + 1) by omega]
    refine go _ ?_
    refine ⟨(j + 1, (subA oa1 8 cp1, cp1 - 8)), by dsimp only; omega, ⟨by dsimp only; omega, ?_⟩, ⟨rfl, rfl, trivial⟩, .refl _⟩
    have := hv1.sub (l := 8) (h := r - 8 * j) (by omega) (Nat.le_refl _)
    rw [show r - 8 * j - 8 = r - 8 * (j + 1) by omega] at this
    exact this.congr fun i _ => by
      show T (8 * j + (8 + i)) = T (8 * (j + 1) + i)
      congr 1; omega
  · have hj8 : j = r / 8 := by omega
    subst hj8
    refine go _ ?_
    refine J_joinE (σ := Nat × (Option Addr × Nat)) [] (fun t => [(0, .slice t.2.1 (r % 4) t.2.2), (4, .int .u64 (t.1 : Nat))]) (fun _ => J1)
      (fun t => t.1 = (if 4 ≤ r % 8 then xs4 (xt8 T h1 (r / 8)) (le4 fun i => T (8 * (r / 8) + i)) else xt8 T h1 (r / 8)) ∧ t.1 < q64 ∧ View G t.2.1 (r % 4) t.2.2 (fun i => T (4 * (r / 4) + i))) ?_ ?_
    · refine J_condP rfl (fun hg4 => ?_) (fun hg4 => ?_)
      · refine go _ ?_
        refine ro_slVT 4 hv1 rfl rfl rfl rfl rfl (by omega) rfl ?_
        refine go _ ?_
        refine ro_callQT (wlow_q (hv1.cut (h := 4) (by omega)).add (fun _ => hby _) (by omega)) ?_
        rw [nlow_4]
        refine go _ ?_
        refine ro_mulU rfl rfl rfl xp1_eq rfl rfl ?_
        rw [q64_bits]
        refine ro_xorZ rfl rfl rfl rfl (lt64 (xt8_lt _ hxh _)) (lt64 (q64_lt _)) rfl ?_
        refine go _ ?_
        refine ro_callQT (rot_q (K := 23) 23 rfl (xor64 (xt8_lt _ hxh _) (q64_lt _)) (by decide)) ?_
        refine ro_mulU rfl rfl rfl xp2_eq rfl rfl ?_
        rw [q64_bits]
        refine ro_addU rfl rfl rfl xp3_eq rfl rfl ?_
        rw [q64_bits]
        have hst : (rotl (xt8 T h1 (r / 8) ^^^ (le4 fun i => T (8 * (r / 8) + i)) * xp1 % q64) 23 * xp2 % q64 + xp3) % q64 = xs4 (xt8 T h1 (r / 8)) (le4 fun i => T (8 * (r / 8) + i)) := rfl
        rw [hst]
        refine go _ ?_
        refine ro_slV 4 (r - 8 * (r / 8)) hv1 rfl rfl rfl rfl rfl rfl rfl (by omega) hcp rfl ?_
        rw [show r - 8 * (r / 8) - 4 = r % 4 by omega]
        refine go _ ?_
        refine ⟨(xs4 (xt8 T h1 (r / 8)) (le4 fun i => T (8 * (r / 8) + i)), (subA oa1 4 cp1, cp1 - 4)), ⟨by rw [if_pos (by omega)], xs4_lt _ _, ?_⟩, ⟨rfl, rfl, trivial⟩, .refl _⟩
        have := hv1.sub (l := 4) (h := r - 8 * (r / 8)) (by omega) (Nat.le_refl _)
        rw [show r - 8 * (r / 8) - 4 = r % 4 by omega] at this
        exact this.congr fun i _ => by
          show T (8 * (r / 8) + (4 + i)) = T (4 * (r / 4) + i)
          congr 1; omega
      · have hl : r - 8 * (r / 8) = r % 4 := by omega
        rw [hl] at hv1 ⊢
        refine go _ ?_
        refine ⟨(xt8 T h1 (r / 8), (oa1, cp1)), ⟨by rw [if_neg (by omega)], xt8_lt _ hxh _, hv1.congr fun i _ => ?_⟩, ⟨rfl, rfl, trivial⟩, .refl _⟩
        show T (8 * (r / 8) + i) = T (4 * (r / 4) + i)
        congr 1; omega
    rintro ⟨h2, ⟨oa2, cp2⟩⟩ f ⟨hh2, hq2, hv2⟩
    dsimp only at hh2 hq2 hv2 ⊢
    clear hv1 hg hj hcp
    refine go _ ?_
    refine J_loopL (σ := Nat) [] (fun i => [(4, .int .u64 (xt1 (fun i => T (4 * (r / 4) + i)) h2 i : Nat)), (105, .slice oa2 (r % 4) cp2), (106, .int .i64 (r % 4 : Nat)), (107, .int .i64 (i : Nat))]) (fun _ => J1) (fun i => i ≤ r % 4) (fun i => r % 4 - i) 0 (.refl _) (Nat.zero_le _) ?_
    intro i f hi
    refine go _ ?_
    refine J_condP rfl (fun hlt => ?_) (fun hge => ?_)
    · have hlt' : i < r % 4 := by omega
      obtain ⟨b0, o0, rfl⟩ := hv2.some (by omega)
      refine go _ ?_
      rw [show T (4 * (r / 4) + i) % 2 ^ IntKind.u64.bits = T (4 * (r / 4) + i) from Nat.mod_eq_of_lt (by have := hby (4 * (r / 4) + i); show _ < 2 ^ 64; omega)]
      refine ro_mulU rfl rfl rfl xp5_eq rfl rfl ?_
      rw [q64_bits]
      refine ro_xorZ rfl rfl rfl rfl (lt64 (xt1_lt _ hq2 _)) (lt64 (q64_lt _)) rfl ?_
      refine go _ ?_
      refine ro_callQT (rot_q (K := 11) 11 rfl (xor64 (xt1_lt _ hq2 _) (q64_lt _)) (by decide)) ?_
      refine ro_mulU rfl rfl rfl xp1_eq rfl rfl ?_
      rw [q64_bits]
      have hst : rotl (xt1 (fun i => T (4 * (r / 4) + i)) h2 i ^^^ T (4 * (r / 4) + i) * xp5 % q64) 11 * xp1 % q64 = xt1 (fun i => T (4 * (r / 4) + i)) h2 (i + 1) := by rw [xt1]; rfl
      rw [hst]
      refine go _ ?_
      exact ⟨i + 1, by omega, by omega, ⟨rfl, rfl, rfl, rfl, trivial⟩, .refl _⟩
    · obtain rfl : i = r % 4 := by omega
      have hh3 := xt1_lt (fun i => T (4 * (r / 4) + i)) hq2 (r % 4)
      have hval : xt1 (fun i => T (4 * (r / 4) + i)) h2 (r % 4) = xtail T h1 r := by
        unfold xtail; dsimp only; rw [hh2]
      rw [hval] at hh3 ⊢
      generalize hg3 : xtail T h1 r = h3 at hh3 ⊢
      refine go _ ?_
      refine ro_xorZ rfl rfl rfl rfl (lt64 hh3) (lt64 (Nat.lt_of_le_of_lt (Nat.div_le_self _ _) hh3)) rfl ?_
      refine go _ ?_
      refine ro_mulU rfl rfl rfl xp2_eq rfl rfl ?_
      rw [q64_bits]
      generalize hh4 : (h3 ^^^ h3 / 2 ^ 33) * xp2 % q64 = h4
      have hq4 : h4 < q64 := hh4 ▸ q64_lt _
      refine go _ ?_
      refine ro_xorZ rfl rfl rfl rfl (lt64 hq4) (lt64 (Nat.lt_of_le_of_lt (Nat.div_le_self _ _) hq4)) rfl ?_
      refine go _ ?_
      refine ro_mulU rfl rfl rfl xp3_eq rfl rfl ?_
      rw [q64_bits]
      generalize hh5 : (h4 ^^^ h4 / 2 ^ 29) * xp3 % q64 = h5
      have hq5 : h5 < q64 := hh5 ▸ q64_lt _
      refine go _ ?_
      refine ro_xorZ rfl rfl rfl rfl (lt64 hq5) (lt64 (Nat.lt_of_le_of_lt (Nat.div_le_self _ _) hq5)) rfl ?_
      refine go _ ?_
      refine J_ret ?_
      refine ends_retS [2] (post := []) (junk := J1) ?_ rfl (.refl _)
      show Value.int .u64 ((h5 ^^^ h5 / 2 ^ 32 : Nat) : Int) = .int .u64 ((xfin h3 : Nat) : Int)
      unfold xfin
      dsimp only
      rw [hh4, hh5]
end Go.Proofs.YtogmacnlpclgkaaDoor

/-! WALKS 33: Sum, Stored; FnSumIsAsked. -/
namespace Go.Proofs.YtogmacnlpclgkaaDoor
open Go Go.Eng
attribute [local irreducible] RO J Trip Quiet
set_option maxRecDepth 20000
variable {G : Mem}

theorem sum_t (oa : Option Addr) (L cp : Nat) (tx : Nat → Nat) (hx : ∀ i, tx i < 256) (hv : View G oa L cp tx) (hL : L ≤ 2 ^ 31) :
    Trip Tryd.prog G 14 #[.slice oa L cp] [] (fun v _ => v = .int .u32 ((xdig tx L % 4294967296 : Nat) : Int)) := by
  refine Trip_of Tryd.func14 rfl (by show 1 ≤ _; decide) (args := [.slice oa L cp]) fun c h0 hex => ?_
  refine go _ ?_
  refine ro_callT (sum64_t oa L cp tx hx hv hL) ?_
  rintro v m rfl
  refine go _ ?_
  refine J_ret ?_
  exact ends_retS [2] (post := []) (junk := m ++ []) rfl rfl (.refl _)

theorem stored_eq (L x : Nat) (tx : Nat → Nat) (i : Nat) : app1 (4 + 1 + 4 + 3 + L) (app1 (4 + 1 + 4 + 3) (app1 (4 + 1 + 4) (app1 (4 + 1) (app1 4 (lowF 4247762216) fun i => [164].getD i 0) (lowF L)) (lowF (8 * L + 1))) tx) (lowF x) i = if i < 16 + L then storedF L x tx i else lowF x (i - (12 + L)) := by
  have l0 : lowF 4247762216 0 = 40 := (lowF_0 _).trans (by decide)
  have l1 : lowF 4247762216 1 = 181 := (lowF_1 _).trans (by decide)
  have l2 : lowF 4247762216 2 = 47 := (lowF_2 _).trans (by decide)
  have l3 : lowF 4247762216 3 = 253 := (lowF_3 _).trans (by decide)
  generalize lowF 4247762216 = lo at *
  by_cases h16 : i < 16 + L
  · rw [if_pos h16]
    unfold storedF
    by_cases h12 : i < 12
    · rw [if_pos h12, app1_lt (show i < 4 + 1 + 4 + 3 + L by omega), app1_lt (show i < 4 + 1 + 4 + 3 by omega)]
      by_cases h9 : i < 9
      · rw [app1_lt (show i < 4 + 1 + 4 by omega)]
        by_cases h5 : i < 5
        · rw [app1_lt (show i < 4 + 1 by omega)]
          by_cases h4 : i < 4
          · rw [app1_lt h4]
            obtain rfl | rfl | rfl | rfl : i = 0 ∨ i = 1 ∨ i = 2 ∨ i = 3 := by omega
            · exact l0
            · exact l1
            · exact l2
            · exact l3
          · rw [app1_ge h4]
            obtain rfl : i = 4 := by omega
            rfl
        · rw [app1_ge (show ¬ i < 4 + 1 by omega)]
          obtain rfl | rfl | rfl | rfl : i = 5 ∨ i = 6 ∨ i = 7 ∨ i = 8 := by omega
          · exact lowF_0 L
          · exact lowF_1 L
          · exact lowF_2 L
          · exact lowF_3 L
      · rw [app1_ge (show ¬ i < 4 + 1 + 4 by omega)]
        generalize 8 * L + 1 = z
        obtain rfl | rfl | rfl : i = 9 ∨ i = 10 ∨ i = 11 := by omega
        · exact lowF_0 z
        · exact lowF_1 z
        · exact lowF_2 z
    · rw [if_neg h12]
      by_cases hL : i < 12 + L
      · rw [if_pos hL, app1_lt (show i < 4 + 1 + 4 + 3 + L by omega), app1_ge (show ¬ i < 4 + 1 + 4 + 3 by omega)]
      · rw [if_neg hL, app1_ge (show ¬ i < 4 + 1 + 4 + 3 + L by omega), show i - (4 + 1 + 4 + 3 + L) = i - (12 + L) by omega]
        obtain h | h | h | h : i - (12 + L) = 0 ∨ i - (12 + L) = 1 ∨ i - (12 + L) = 2 ∨ i - (12 + L) = 3 := by omega
        · rw [h]; exact lowF_0 x
        · rw [h]; exact lowF_1 x
        · rw [h]; exact lowF_2 x
        · rw [h]; exact lowF_3 x
  · rw [if_neg h16, app1_ge (show ¬ i < 4 + 1 + 4 + 3 + L by omega), show i - (4 + 1 + 4 + 3 + L) = i - (12 + L) by omega]
theorem storedF_lt {L x : Nat} {tx : Nat → Nat} (h : ∀ i, tx i < 256) (i : Nat) : storedF L x tx i < 256 := by
  unfold storedF
  split
  · refine list_lt ?_ i
    intro v hv
    simp only [List.mem_cons, List.not_mem_nil, or_false] at hv
    omega
  · split
    · exact h _
    · refine list_lt ?_ _
      intro v hv
      simp only [List.mem_cons, List.not_mem_nil, or_false] at hv
      omega

set_option maxHeartbeats 1000000 in
theorem stored_t (oa : Option Addr) (L cp : Nat) (tx : Nat → Nat) (hv : View G oa L cp tx) (hL : L ≤ 2 ^ 31) (x : Nat) (_hx : x < 4294967296) :
    Trip Tryd.prog G 15 #[.slice oa L cp, .bool true, .int .i64 (L : Nat), .int .u32 (x : Nat)] [] (fun v m => ∃ oa' cp', v = .slice oa' (16 + L) cp' ∧ SlM 1 (.slice oa' (16 + L) cp') (16 + L) (u8f (storedF L x tx)) m) := by
  refine Trip_of Tryd.func15 rfl (by show 4 ≤ _; decide) (args := [.slice oa L cp, .bool true, .int .i64 (L : Nat), .int .u32 (x : Nat)]) fun c h0 hex => ?_
  refine go _ ?_
  refine ro_orN 160 4 rfl rfl (by decide) (by decide) rfl ?_
  rw [show 160 ||| 4 = 164 from rfl]
  refine go _ ?_
  refine ro_callT (low_t 4247762216 4 (by omega)) ?_
  rintro v om1 ⟨a1, c1, rfl, h1⟩
  rw [List.append_nil]
  refine go _ ?_
  refine ro_buildSlice1 (z := .int .u8 0) (vs := [.int .u8 164]) rfl rfl z5 rfl rfl rfl rfl hex fun b1 hb1 => ?_
  refine go _ ?_
  refine ro_appendMF (s := 0) (src := fun x => (listB [.int .u8 164] 5).g (0 + x)) (k := 1) (len := 4) (v := .slice a1 4 c1) (cl := u8f (lowF 4247762216)) (sm := om1) (fm := [(b1, listB [.int .u8 164] 5)]) rfl rfl rfl rfl z5 (by decide) rfl rfl h1
    (pC1 _ _) (Src.of (B := listB [.int .u8 164] 5) (by simp) (by show 0 + 1 * (0 + 1) ≤ 1; decide)) (fun x hx => by rw [show x = 0 from by have h : x < 1 := hx; omega]; rfl) (by omega) hex rfl ?_
  intro v' s1 hs1 ho1
  have hs1 := slmCongr hs1 (app_cl (len := 4) (k := 1) (a := lowF 4247762216) (src := fun x => (listB [.int .u8 164] 5).g (0 + x)) (b := fun i => [164].getD i 0) (fun i hi => by
    match i, hi with
    | 0, _ => rfl))
  obtain ⟨a2, c2, rfl⟩ := slmForm hs1
  refine go _ ?_
  refine ro_callT (low_t L 4 (by omega)) ?_
  rintro v om2 ⟨a3, c3, rfl, h2⟩
  refine go _ ?_
  obtain ⟨g2, e2, e2'⟩ := slmSrc (M := (om2 ++ ([(b1, listB [.int .u8 164] 5)] ++ s1)) ++ G) h2 (fun p hp => by simp [hp])
  refine ro_appendMF (s := 0) (src := g2) (k := 4) (len := 4 + 1) (v := .slice a2 (4 + 1) c2) (sm := s1) (fm := om2 ++ [(b1, listB [.int .u8 164] 5)]) rfl rfl rfl rfl z5 (by decide) rfl rfl hs1
    (pN om2 [(b1, listB [.int .u8 164] 5)] s1) e2 (fun x hx => by rw [e2' x (by omega)]; rfl) (by omega) hex rfl ?_
  intro v' s2 hs2 ho2
  have hs2 := slmCongr hs2 (app_cl (len := 4 + 1) (k := 4) (b := lowF L) (fun i hi => e2' i (by omega)))
  obtain ⟨a4, c4, rfl⟩ := slmForm hs2
  refine go _ ?_
  refine ro_orN (L * 2 ^ 3) 1 rfl rfl (by show _ < 2 ^ 63; omega) (by decide) rfl ?_
  rw [or_81]
  refine go _ ?_
  refine ro_callT (low_t (8 * L + 1) 3 (by omega)) ?_
  rintro v om3 ⟨a5, c5, rfl, h3⟩
  refine go _ ?_
  obtain ⟨g3, e3, e3'⟩ := slmSrc (M := (om3 ++ ((om2 ++ [(b1, listB [.int .u8 164] 5)]) ++ s2)) ++ G) h3 (fun p hp => by simp [hp])
  refine ro_appendMF (s := 0) (src := g3) (k := 3) (len := 4 + 1 + 4) (v := .slice a4 (4 + 1 + 4) c4) (sm := s2) (fm := om3 ++ (om2 ++ [(b1, listB [.int .u8 164] 5)])) rfl rfl rfl rfl z5 (by decide) rfl rfl hs2
    (pN om3 (om2 ++ [(b1, listB [.int .u8 164] 5)]) s2) e3 (fun x hx => by rw [e3' x (by omega)]; rfl) (by omega) hex rfl ?_
  intro v' s3 hs3 ho3
  have hs3 := slmCongr hs3 (app_cl (len := 4 + 1 + 4) (k := 3) (b := lowF (8 * L + 1)) (fun i hi => e3' i (by omega)))
  obtain ⟨a6, c6, rfl⟩ := slmForm hs3
  refine go _ ?_
  obtain ⟨g4, e4, e4'⟩ := hv.src
  refine ro_appendMF (s := 0) (src := g4) (k := L) (len := 4 + 1 + 4 + 3) (v := .slice a6 (4 + 1 + 4 + 3) c6) (sm := s3) (fm := om3 ++ (om2 ++ [(b1, listB [.int .u8 164] 5)])) rfl rfl rfl rfl z5 (by decide) rfl rfl hs3
    List.perm_append_comm (srcAdd e4) (fun x hx => by rw [e4' x (by omega)]; rfl) (by omega) hex rfl ?_
  intro v' s4 hs4 ho4
  have hs4 := slmCongr hs4 (app_cl (len := 4 + 1 + 4 + 3) (k := L) (b := tx) (fun i hi => e4' i hi))
  obtain ⟨a7, c7, rfl⟩ := slmForm hs4
  refine go _ ?_
  refine ro_callT (low_t x 4 (by omega)) ?_
  rintro v om5 ⟨a8, c8, rfl, h5⟩
  refine go _ ?_
  generalize hJ : om3 ++ (om2 ++ [(b1, listB [.int .u8 164] 5)]) = JJ
  obtain ⟨g5, e5, e5'⟩ := slmSrc (M := (om5 ++ (JJ ++ s4)) ++ G) h5 (fun p hp => by simp [hp])
  refine ro_appendMF (s := 0) (src := g5) (k := 4) (len := 4 + 1 + 4 + 3 + L) (v := .slice a7 (4 + 1 + 4 + 3 + L) c7) (sm := s4) (fm := om5 ++ JJ) rfl rfl rfl rfl z5 (by decide) rfl rfl hs4
    (pN om5 JJ s4) e5 (fun x hx => by rw [e5' x (by omega)]; rfl) (by omega) hex rfl ?_
  intro v' s5 hs5 ho5
  have hs5 := slmCongr hs5 (app_cl (len := 4 + 1 + 4 + 3 + L) (k := 4) (b := lowF x) (fun i hi => e5' i (by omega)))
  obtain ⟨a9, c9, rfl⟩ := slmForm hs5
  rw [show 4 + 1 + 4 + 3 + L + 4 = 16 + L by omega] at hs5 ⊢
  refine go _ ?_
  refine J_ret ?_
  refine ends_retS [8] (post := s5) (junk := om5 ++ JJ) ⟨a9, c9, rfl, slmCongr hs5 fun i hi => ?_⟩ rfl (.of_perm List.perm_append_comm)
  have hi : i < 16 + L := by simpa using hi
  refine congrArg (fun x : Nat => Value.int .u8 (x : Int)) ?_
  rw [stored_eq L x tx i, if_pos hi]

def threeU (a b c : Nat) : Nat → Nat := fun i => [a, b, c].getD i 0
theorem threeU_g (a b c i : Nat) (hi : i < 3) (T : TypeId) (B : Blk) (hB : B = listB [.int .u32 (a : Nat), .int .u32 (b : Nat), .int .u32 (c : Nat)] T) : B.g (0 + ((i : Nat) : Int).toNat) = .int .u32 ((threeU a b c i : Nat) : Int) := by
  subst hB
  rw [Nat.zero_add, Int.toNat_natCast]
  match i, hi with
  | 0, _ => rfl
  | 1, _ => rfl
  | 2, _ => rfl

set_option maxHeartbeats 1000000 in
theorem fnSum_t (S : Sent G) (oa : Option Addr) (L cp : Nat) (tx : Nat → Nat) (hx : ∀ i, tx i < 256) (hv : View G oa L cp tx) (x : Nat) (hx32 : x < 4294967296) (fb : Blk) (hfb : (2, fb) ∈ G) (hfn : 0 < fb.n) (hfv : fb.g 0 = .bool false) :
    Trip Tryd.prog G 5 #[.slice oa L cp, .int .u32 (x : Nat)] [] (fun v _ => v = .bool true) := by
  refine Trip_of Tryd.func5 rfl (by show 2 ≤ _; decide) (args := [.slice oa L cp, .int .u32 (x : Nat)]) fun c h0 hex => ?_
  refine go _ ?_
  refine J_condP rfl (fun h1 => ?_) (fun h1 => ?_)
  · refine go _ ?_
    refine J_ret ?_
    exact ends_retS [4] rfl
  refine go _ ?_
  refine J_condP rfl (fun h2 => ?_) (fun h2 => ?_)
  · refine go _ ?_
    refine ro_callT (wakes_t S fb hfb hfn hfv) ?_
    rintro v m rfl
    refine go _ ?_
    refine J_ret ?_
    exact ends_retS [4] (post := []) (junk := m ++ []) rfl rfl (.refl _)
  have hL : L ≤ 131072 := by omega
  refine go _ ?_
  refine ro_callT (sum_t oa L cp tx hx hv (by omega)) ?_
  rintro v m1 rfl
  obtain ⟨R, hR⟩ : ∃ R, R = xdig tx L % 4294967296 := ⟨_, rfl⟩
  have hR32 : R < 4294967296 := by omega
  rw [← hR]
  have hp : 2 ^ (x % 32) ≤ 2 ^ 31 := Nat.pow_le_pow_right (by omega) (by omega)
  have hxr : R ^^^ (1 * 2 ^ (x % 32)) < 2 ^ 32 := Nat.xor_lt_two_pow (by omega) (by omega)
  refine go _ ?_
  refine ro_xorZ rfl rfl rfl rfl (by show _ < 2 ^ 32; omega) (by show _ < 2 ^ 32; omega) rfl ?_
  generalize R ^^^ (1 * 2 ^ (x % 32)) = y at hxr ⊢
  refine go _ ?_
  refine ro_buildSlice1 (z := .int .u32 0) (vs := [.int .u32 (x : Nat), .int .u32 (R : Nat), .int .u32 (y : Nat)]) rfl rfl z40 rfl rfl rfl rfl hex fun b1 hb1 => ?_
  refine go _ ?_
  refine J_loopL (σ := Nat × Mem) [] (fun t => [(0, .slice oa L cp), (5, .int .u32 (R : Nat)), (27, .slice (some ⟨b1, 0, none⟩) 3 3), (28, .int .i64 3), (29, .int .i64 (t.1 : Nat))]) (fun t => (b1, listB [.int .u32 (x : Nat), .int .u32 (R : Nat), .int .u32 (y : Nat)] 40) :: t.2)
    (fun t => t.1 ≤ 3) (fun t => 3 - t.1) (0, m1 ++ []) (.refl _) (Nat.zero_le _) ?_
  rintro ⟨i, j⟩ f hi
  dsimp only at hi ⊢
  refine go _ ?_
  refine J_condP rfl (fun hlt => ?_) (fun hge => ?_)
  · have hi3 : i < 3 := by omega
    refine go _ ?_
    refine ro_loadI (v := .int .u32 ((threeU x R y i : Nat) : Int)) rfl rfl .here (by show _ < 3; omega) (threeU_g x R y i hi3 _ _ rfl) rfl ?_
    have hn : threeU x R y i < 4294967296 := by
      match i, hi3 with
      | 0, _ => show x < _; omega
      | 1, _ => show R < _; omega
      | 2, _ => show y < _; omega
    generalize threeU x R y i = n at hn ⊢
    refine go _ ?_
    refine ro_callT (stored_t oa L cp tx hv (by omega) n hn) ?_
    rintro v om ⟨a1, c1, rfl, h3⟩
    refine go _ ?_
    have hvd := slmView h3
    refine ro_callT (Trip.freeze (fm := om) (rawRead_t (S.add om) (fun i => storedF_lt hx i) _ _ (hvd.mono fun p hp => List.mem_append.2 (.inl hp)) fb (List.mem_append.2 (.inr hfb)) hfn hfv (stored_fr (x := n) (fun _ _ => rfl) hL hn) (by omega))) ?_
    rintro v m' ⟨om2, ⟨out, l, D, rfl, hsl, hg⟩, rfl⟩
    obtain ⟨a2, c2, rfl⟩ := slmForm hsl
    have hvo := slmView hsl
    rw [show decide (L = L ∧ (true = true → n = xdig tx L % 4294967296)) = decide (n = R) by rw [decide_eq_decide, hR]; simp]
    by_cases hnl : n = R
    · obtain ⟨rfl, hD⟩ := hg ⟨rfl, fun _ => hnl.trans hR⟩
      rw [decide_eq_true hnl]
      refine go _ ?_
      refine ro_neBool (r := false) rfl rfl rfl (by rw [decide_eq_true (by omega)]; rfl) rfl ?_
      refine go _ ?_
      refine ro_callT (Trip.freeze (fm := om2) (same_t a2 oa l l c2 cp D tx (hvo.mono fun p hp => List.mem_append.2 (.inl hp)) (hv.mono fun p hp => List.mem_append.2 (.inr hp)) rfl hD)) ?_ (fm := om ++ ((b1, listB [.int .u32 (x : Nat), .int .u32 (R : Nat), .int .u32 (y : Nat)] 40) :: j)) (hs := by rw [List.append_assoc]; exact .refl _)
      rintro v m ⟨m0, ⟨hm0, rfl⟩, hm⟩
      rw [hm, hm0, List.nil_append]
      refine go _ ?_
      exact ⟨(i + 1, om2 ++ om ++ j), by dsimp only; omega, by dsimp only; omega, ⟨rfl, rfl, rfl, rfl, rfl, trivial⟩, by rw [← List.append_assoc]; exact .of_perm List.perm_middle⟩
    · rw [decide_eq_false hnl]
      refine go _ ?_
      refine ro_neBool (r := false) rfl rfl rfl (by rw [decide_eq_false (by omega)]; rfl) rfl ?_
      refine go _ ?_
      exact ⟨(i + 1, om2 ++ om ++ j), by dsimp only; omega, by dsimp only; omega, ⟨rfl, rfl, rfl, rfl, rfl, trivial⟩, .of_perm List.perm_middle⟩
  · refine go _ ?_
    refine ro_callT (wakes_t S fb hfb hfn hfv) ?_
    rintro v m rfl
    refine go _ ?_
    refine J_ret ?_
    exact ends_retS [4] (post := []) (junk := m ++ ((b1, _) :: j)) rfl rfl (.refl _)
end Go.Proofs.YtogmacnlpclgkaaDoor
