/-
  TEXTS MERGED: C4.
-/
import Derived.Test.YtogmacnlpclgkaaDoorK22
/-! COMPRESSED BLOCKS 4: buildFSE. -/
namespace Go.Proofs.YtogmacnlpclgkaaDoor
open Go Go.Eng Go.Pz
attribute [local irreducible] RO J Trip Quiet
set_option maxRecDepth 20000
variable {G : Mem} {d : Nat → Nat}

def arrZ (k : IntKind) (N : Nat) (x : Nat → Int) (T : TypeId) : Blk := ⟨N, fun i => .int k (x i), T, (0, 0)⟩
/-- The cells of an FSE table. -/
def FseG (g : Nat → Value) (sh : Nat → Int) (n log : Nat) : Prop := ∀ p, p < 2 ^ log → g (p * 3) = .int .u8 (symTab sh n (2 ^ log) p : Nat) ∧ g (p * 3 + 1) = .int .u8 (cellBits sh n log p : Nat) ∧ g (p * 3 + 2) = .int .u16 (cellBase sh n log p : Nat)
def nx0 (sh : Nat → Int) (s : Nat) : Nat := if sh s < 0 then 1 else (sh s).toNat

set_option maxHeartbeats 1000000 in
theorem buildFSE_t (rb nb tb : Nat) (off0 : Int) (sh : Nat → Int) (n log tl tc : Nat) (TB : Blk) (hF : Fills sh n (2 ^ log)) (hn : n ≤ 256) (h5 : 5 ≤ log) (h9 : log ≤ 9) (htl : 2 ^ log ≤ tl) (_htc : tl ≤ tc) (hTB : tl * 3 ≤ TB.n) (hfr : TB.fr = (0, 0)) :
    Trip Tryd.prog G 92 #[.pointer (some ⟨rb, 0, none⟩), .int .i64 off0, .slice (some ⟨nb, 0, none⟩) n 256, .slice (some ⟨tb, 0, none⟩) tl tc, .int .i64 (log : Nat)] [(nb, arrZ .i16 256 sh 176), (tb, TB)] (fun v m =>
      v = .nilIface ∧ ∃ g, m = [(nb, arrZ .i16 256 sh 176), (tb, ⟨TB.n, g, TB.T, (0, 0)⟩)] ∧ FseG g sh n log ∧ ∀ c, 3 * 2 ^ log ≤ c → g c = TB.g c) := by
  refine Trip_of Tryd.func92 rfl (by show 5 ≤ _; decide) (args := [.pointer (some ⟨rb, 0, none⟩), .int .i64 off0, .slice (some ⟨nb, 0, none⟩) n 256, .slice (some ⟨tb, 0, none⟩) tl tc, .int .i64 (log : Nat)]) fun c h0 hex => ?_
  have hs9 := hF.ok.le
  have hs1 := hF.ok.pos
  obtain ⟨size, hsz⟩ : ∃ size, size = 2 ^ log := ⟨_, rfl⟩
  refine go _ ?_
  refine ro_alloc z180 rfl hex fun xb hxb => ?_
  refine go _ ?_
  refine J_cutHere [(0, .pointer (some ⟨rb, 0, none⟩)), (1, .int .i64 off0), (2, .slice (some ⟨nb, 0, none⟩) n 256), (3, .slice (some ⟨tb, 0, none⟩) tl tc), (4, .int .i64 (log : Nat)), (11, .int .i64 (size : Nat)), (12, .int .i64 ((size : Nat) - 1 - (0 : Nat) : Int)), (13, .pointer (some ⟨xb, 0, none⟩)), (31, .slice (some ⟨nb, 0, none⟩) n 256), (32, .int .i64 (n : Nat)), (33, .int .i64 ((0 : Nat) : Int))]
    [(xb, arrB .u16 256 (fun _ => 0) 180), (nb, arrZ .i16 256 sh 176), (tb, TB)]
    ⟨rfl, rfl, rfl, rfl, rfl, by show Value.int .i64 ((1 * 2 ^ log : Nat) : Int) = _; rw [hsz, Nat.one_mul], by show Value.int .i64 ((1 * 2 ^ log - 1 : Nat) : Int) = _; rw [hsz, Nat.one_mul]; congr 1; omega, rfl, rfl, rfl, rfl, trivial⟩ (.cons (blk_tab rfl rfl rfl rfl) (.refl _)) fun f => ?_
  rw [← hsz] at hF hs9 hs1 htl
  refine J_loopL (σ := Nat × (Nat → Nat) × (Nat → Value)) [] (fun t => [(0, .pointer (some ⟨rb, 0, none⟩)), (1, .int .i64 off0), (2, .slice (some ⟨nb, 0, none⟩) n 256), (3, .slice (some ⟨tb, 0, none⟩) tl tc), (4, .int .i64 (log : Nat)), (11, .int .i64 (size : Nat)), (12, .int .i64 ((size : Nat) - 1 - (negCnt sh t.1 : Nat) : Int)), (13, .pointer (some ⟨xb, 0, none⟩)), (31, .slice (some ⟨nb, 0, none⟩) n 256), (32, .int .i64 (n : Nat)), (33, .int .i64 (t.1 : Nat))])
    (fun t => [(xb, arrB .u16 256 t.2.1 180), (nb, arrZ .i16 256 sh 176), (tb, ⟨TB.n, t.2.2, TB.T, (0, 0)⟩)])
    (fun t => t.1 ≤ n ∧ (∀ s, s < t.1 → t.2.1 s = nx0 sh s) ∧ (∀ k, k < negCnt sh t.1 → t.2.2 ((size - 1 - k) * 3) = .int .u8 (negSym sh n k : Nat)) ∧ ∀ c, 3 * size ≤ c → t.2.2 c = TB.g c) (fun t => n - t.1) (0, fun _ => 0, TB.g)
    (.skip (.skip (.cons (by rw [← hfr]) .nil))) ⟨Nat.zero_le _, fun s hs => absurd hs (Nat.not_lt_zero _), fun k hk => absurd hk (Nat.not_lt_zero _), fun _ _ => rfl⟩ ?_
  rintro ⟨i, y, g⟩ f ⟨hi, hy, hg, hgc⟩
  dsimp only at hi hy hg hgc ⊢
  refine go _ ?_
  refine J_condP rfl (fun hlt => ?_) (fun hge => ?_)
  · have hin : i < n := by omega
    have hsh := hF.ge i hin
    have hsl := share_le (sh := sh) hin
    have hsum := hF.sum
    refine go _ ?_
    refine ro_loadI (v := .int .i16 (sh i)) rfl rfl (.there .here) (by show 0 + i < 256; omega) (by show Value.int .i16 (sh (0 + i)) = _; rw [Nat.zero_add]) rfl ?_
    refine go _ ?_
    refine J_condP rfl (fun hp => ?_) (fun hneg => ?_)
    · obtain ⟨w, hw⟩ : ∃ w : Nat, sh i = (w : Int) := ⟨(sh i).toNat, by omega⟩
      rw [hw] at hsl
      have hnc : negCnt sh (i + 1) = negCnt sh i := by rw [negCnt, if_neg (by omega)]; rfl
      refine go _ ?_
      refine ro_storeArr (v := w) rfl rfl hw rfl .here (by show 0 + i < 256; omega) hex ?_
      refine go _ ?_
      refine ⟨(i + 1, updN y (0 + i) w, g), by dsimp only; omega, ⟨by dsimp only; omega, fun s hs => ?_, by dsimp only; rw [hnc]; exact hg, hgc⟩, ⟨rfl, rfl, rfl, rfl, rfl, rfl, by dsimp only; rw [hnc]; rfl, rfl, rfl, rfl, rfl, trivial⟩, .refl _⟩
      have hs : s < i + 1 := hs
      show updN y (0 + i) w s = _
      rw [Nat.zero_add]
      by_cases he : s = i
      · subst he; rw [updN_same]; unfold nx0; rw [if_neg (by omega), hw]; rfl
      · rw [updN_other _ _ _ _ he]; exact hy s (by omega)
    · have hnc : negCnt sh (i + 1) = negCnt sh i + 1 := by rw [negCnt, if_pos (by omega)]
      have hm1 := negCnt_mono sh (i := i + 1) (j := n) hin
      have hI : ((size : Nat) : Int) - 1 - ((negCnt sh i : Nat) : Int) = ((size - 1 - negCnt sh i : Nat) : Int) := by omega
      rw [hI]
      refine go _ ?_
      refine ro_storeI (v := .int .u8 (i : Nat)) rfl rfl rfl rfl (.there (.there .here)) (by show _ < TB.n; omega) rfl hex ?_
      refine go _ ?_
      refine ⟨(i + 1, updN y (0 + i) 1, upd g ((size - 1 - negCnt sh i) * 3) (.int .u8 (i : Nat))), by dsimp only; omega, ⟨by dsimp only; omega, fun s hs => ?_, fun k hk => ?_, fun c hc => ?_⟩, ⟨rfl, rfl, rfl, rfl, rfl, rfl, ?_, rfl, rfl, rfl, rfl, trivial⟩, .skip (.skip (.cons ?_ .nil))⟩
      · have hs : s < i + 1 := hs
        show updN y (0 + i) 1 s = _
        rw [Nat.zero_add]
        by_cases he : s = i
        · subst he; rw [updN_same]; unfold nx0; rw [if_pos (by omega)]
        · rw [updN_other _ _ _ _ he]; exact hy s (by omega)
      · have hk : k < negCnt sh (i + 1) := hk
        show upd g ((size - 1 - negCnt sh i) * 3) (.int .u8 (i : Nat)) ((size - 1 - k) * 3) = _
        by_cases he : k = negCnt sh i
        · rw [he, upd_same, negSym_eq sh (by omega) hin]
        · rw [upd_other _ _ _ _ (by omega)]; exact hg k (by omega)
      · have hc : 3 * size ≤ c := hc
        show upd g ((size - 1 - negCnt sh i) * 3) (.int .u8 (i : Nat)) c = _
        rw [upd_other _ _ _ _ (by omega)]; exact hgc c hc
      · show Value.int .i64 (((size - 1 - negCnt sh i : Nat) : Int) - 1) = Value.int .i64 (((size : Nat) : Int) - 1 - ((negCnt sh (i + 1) : Nat) : Int))
        rw [hnc]; congr 1; omega
      · show (⟨TB.n, upd g (0 + (size - 1 - negCnt sh i) * (2 + 1) + 0) (.int .u8 (i : Nat)), TB.T, (0, 0)⟩ : Blk).obj = _
        rw [show 0 + (size - 1 - negCnt sh i) * (2 + 1) + 0 = (size - 1 - negCnt sh i) * 3 by omega]
  · have hin : i = n := by omega
    subst hin
    obtain ⟨H, hH⟩ : ∃ H, H = size - negCnt sh i := ⟨_, rfl⟩
    have hlow := hF.low
    have hsum := hF.sum
    have hng : negCnt sh i ≤ size := by omega
    refine go _ ?_
    refine J_cutHere [(0, .pointer (some ⟨rb, 0, none⟩)), (1, .int .i64 off0), (3, .slice (some ⟨tb, 0, none⟩) tl tc), (4, .int .i64 (log : Nat)), (11, .int .i64 (size : Nat)), (12, .int .i64 ((size : Nat) - 1 - (negCnt sh i : Nat) : Int)), (13, .pointer (some ⟨xb, 0, none⟩)), (16, .int .i64 (fpos size 0 : Nat)), (17, .int .i64 (fstep size : Nat)), (18, .int .i64 ((size - 1 : Nat) : Int)), (65, .slice (some ⟨nb, 0, none⟩) i 256), (66, .int .i64 (i : Nat)), (67, .int .i64 ((0 : Nat) : Int))]
      [(xb, arrB .u16 256 y 180), (nb, arrZ .i16 256 sh 176), (tb, ⟨TB.n, g, TB.T, (0, 0)⟩)]
      ⟨rfl, rfl, rfl, rfl, rfl, rfl, rfl, by show Value.int .i64 0 = _; rw [fpos_zero]; rfl, rfl, rfl, rfl, rfl, rfl, trivial⟩ (.refl _) fun f => ?_
    refine J_loopL (σ := Nat × Nat × (Nat → Value)) [] (fun t => [(0, .pointer (some ⟨rb, 0, none⟩)), (1, .int .i64 off0), (3, .slice (some ⟨tb, 0, none⟩) tl tc), (4, .int .i64 (log : Nat)), (11, .int .i64 (size : Nat)), (12, .int .i64 ((size : Nat) - 1 - (negCnt sh i : Nat) : Int)), (13, .pointer (some ⟨xb, 0, none⟩)), (16, .int .i64 (fpos size t.2.1 : Nat)), (17, .int .i64 (fstep size : Nat)), (18, .int .i64 ((size - 1 : Nat) : Int)), (65, .slice (some ⟨nb, 0, none⟩) i 256), (66, .int .i64 (i : Nat)), (67, .int .i64 (t.1 : Nat))])
      (fun t => [(xb, arrB .u16 256 y 180), (nb, arrZ .i16 256 sh 176), (tb, ⟨TB.n, t.2.2, TB.T, (0, 0)⟩)])
      (fun t => t.1 ≤ i ∧ t.2.1 ≤ size ∧ cntG size H t.2.1 = posSum sh t.1 ∧ (0 < H → fpos size t.2.1 < H) ∧ (H = 0 → t.2.1 = 0) ∧ (∀ p, p < H → fidx size p < t.2.1 → t.2.2 (p * 3) = .int .u8 (symSeq sh i (cntG size H (fidx size p)) : Nat)) ∧ (∀ k, k < negCnt sh i → t.2.2 ((size - 1 - k) * 3) = .int .u8 (negSym sh i k : Nat)) ∧ ∀ c, 3 * size ≤ c → t.2.2 c = TB.g c) (fun t => i - t.1) (0, 0, g)
      (.refl _) ⟨Nat.zero_le _, Nat.zero_le _, rfl, fun h => by show fpos size 0 < H; rw [fpos_zero]; exact h, fun _ => rfl, fun p _ hp => absurd hp (Nat.not_lt_zero _), hg, hgc⟩ ?_
    rintro ⟨a, jj, g1⟩ f ⟨ha, hj, hcnt, hfp, hH0, hg1, hg2, hg3⟩
    dsimp only at ha hj hcnt hfp hH0 hg1 hg2 hg3 ⊢
    refine go _ ?_
    refine J_condP rfl (fun hlt2 => ?_) (fun hge2 => ?_)
    · have hai : a < i := by omega
      have hsa := hF.ge a hai
      have hsl := share_le (sh := sh) hai
      have hps : posSum sh (a + 1) = posSum sh a + (sh a).toNat := rfl
      have hpm := posSum_mono sh (i := a + 1) (j := i) hai
      refine go _ ?_
      refine ro_loadI (v := .int .i16 (sh a)) rfl rfl (.there .here) (by show 0 + a < 256; omega) (by show Value.int .i16 (sh (0 + a)) = _; rw [Nat.zero_add]) rfl ?_
      refine go _ ?_
      refine J_loopL (σ := Nat × Nat × (Nat → Value)) [] (fun t => [(0, .pointer (some ⟨rb, 0, none⟩)), (1, .int .i64 off0), (3, .slice (some ⟨tb, 0, none⟩) tl tc), (4, .int .i64 (log : Nat)), (11, .int .i64 (size : Nat)), (12, .int .i64 ((size : Nat) - 1 - (negCnt sh i : Nat) : Int)), (13, .pointer (some ⟨xb, 0, none⟩)), (16, .int .i64 (fpos size t.2.1 : Nat)), (17, .int .i64 (fstep size : Nat)), (18, .int .i64 ((size - 1 : Nat) : Int)), (19, .int .i64 (a : Nat)), (20, .int .i16 (sh a)), (21, .int .i64 (t.1 : Nat)), (65, .slice (some ⟨nb, 0, none⟩) i 256), (66, .int .i64 (i : Nat)), (67, .int .i64 (a : Nat))])
        (fun t => [(xb, arrB .u16 256 y 180), (nb, arrZ .i16 256 sh 176), (tb, ⟨TB.n, t.2.2, TB.T, (0, 0)⟩)])
        (fun t => t.1 ≤ (sh a).toNat ∧ t.2.1 ≤ size ∧ cntG size H t.2.1 = posSum sh a + t.1 ∧ (0 < H → fpos size t.2.1 < H) ∧ (H = 0 → t.2.1 = 0) ∧ (∀ p, p < H → fidx size p < t.2.1 → t.2.2 (p * 3) = .int .u8 (symSeq sh i (cntG size H (fidx size p)) : Nat)) ∧ (∀ k, k < negCnt sh i → t.2.2 ((size - 1 - k) * 3) = .int .u8 (negSym sh i k : Nat)) ∧ ∀ c, 3 * size ≤ c → t.2.2 c = TB.g c) (fun t => (sh a).toNat - t.1) (0, jj, g1)
        (.refl _) ⟨Nat.zero_le _, hj, hcnt, hfp, hH0, hg1, hg2, hg3⟩ ?_
      clear hg1 hg2 hg3 hfp hH0 hcnt hj g1 jj
      rintro ⟨j, jj, g1⟩ f ⟨hjs, hj, hcnt, hfp, hH0, hg1, hg2, hg3⟩
      dsimp only at hjs hj hcnt hfp hH0 hg1 hg2 hg3 ⊢
      refine go _ ?_
      have hHs : H ≤ size := by omega
      have hand : ∀ x, x &&& (size - 1) = x % size := fun x => by rw [hsz]; exact Nat.and_two_pow_sub_one_eq_mod x log
      refine J_condP rfl (fun hlt3 => ?_) (fun hge3 => ?_)
      · have hH1 : 0 < H := by omega
        have hpj := hfp hH1
        have hpl := fpos_lt hF.ok jj
        have hfs : fstep size ≤ 1024 := by unfold fstep; omega
        have hjlt : jj < size := by
          rcases Nat.lt_or_ge jj size with h | h
          · exact h
          · exfalso
            have hje : jj = size := by omega
            have := cntG_size hF.ok hHs
            rw [hje, this] at hcnt
            omega
        refine go _ ?_
        refine ro_storeI (v := .int .u8 (a : Nat)) rfl rfl rfl rfl (.there (.there .here)) (by show _ < TB.n; omega) rfl hex ?_
        refine go _ ?_
        obtain ⟨g2, hg2e⟩ : ∃ g2, g2 = upd g1 (fpos size jj * 3) (.int .u8 (a : Nat)) := ⟨_, rfl⟩
        refine J_cutHere [(0, .pointer (some ⟨rb, 0, none⟩)), (1, .int .i64 off0), (3, .slice (some ⟨tb, 0, none⟩) tl tc), (4, .int .i64 (log : Nat)), (11, .int .i64 (size : Nat)), (12, .int .i64 ((size : Nat) - 1 - (negCnt sh i : Nat) : Int)), (13, .pointer (some ⟨xb, 0, none⟩)), (16, .int .i64 (fpos size (jj + 1) : Nat)), (17, .int .i64 (fstep size : Nat)), (18, .int .i64 ((size - 1 : Nat) : Int)), (19, .int .i64 (a : Nat)), (20, .int .i16 (sh a)), (21, .int .i64 (j : Nat)), (65, .slice (some ⟨nb, 0, none⟩) i 256), (66, .int .i64 (i : Nat)), (67, .int .i64 (a : Nat))]
          [(xb, arrB .u16 256 y 180), (nb, arrZ .i16 256 sh 176), (tb, ⟨TB.n, g2, TB.T, (0, 0)⟩)]
          ⟨rfl, rfl, rfl, rfl, rfl, rfl, rfl, by show Value.int .i64 (((fpos size jj + fstep size) &&& (size - 1) : Nat) : Int) = Value.int .i64 ((fpos size (jj + 1) : Nat) : Int); rw [hand, fpos_succ], rfl, rfl, rfl, rfl, rfl, rfl, rfl, rfl, trivial⟩ (.skip (.skip (.cons ?_ .nil))) fun f => ?_
        · show (⟨TB.n, upd g1 (0 + fpos size jj * (2 + 1) + 0) (.int .u8 (a : Nat)), TB.T, (0, 0)⟩ : Blk).obj = _
          rw [hg2e, show 0 + fpos size jj * (2 + 1) + 0 = fpos size jj * 3 by omega]
        refine J_loopL (σ := Nat) [] (fun j2 => [(0, .pointer (some ⟨rb, 0, none⟩)), (1, .int .i64 off0), (3, .slice (some ⟨tb, 0, none⟩) tl tc), (4, .int .i64 (log : Nat)), (11, .int .i64 (size : Nat)), (12, .int .i64 ((size : Nat) - 1 - (negCnt sh i : Nat) : Int)), (13, .pointer (some ⟨xb, 0, none⟩)), (16, .int .i64 (fpos size j2 : Nat)), (17, .int .i64 (fstep size : Nat)), (18, .int .i64 ((size - 1 : Nat) : Int)), (19, .int .i64 (a : Nat)), (20, .int .i16 (sh a)), (21, .int .i64 (j : Nat)), (65, .slice (some ⟨nb, 0, none⟩) i 256), (66, .int .i64 (i : Nat)), (67, .int .i64 (a : Nat))])
          (fun _ => [(xb, arrB .u16 256 y 180), (nb, arrZ .i16 256 sh 176), (tb, ⟨TB.n, g2, TB.T, (0, 0)⟩)])
          (fun j2 => jj < j2 ∧ j2 ≤ size ∧ cntG size H j2 = posSum sh a + j + 1 ∧ ∀ p, p < H → fidx size p < j2 → g2 (p * 3) = .int .u8 (symSeq sh i (cntG size H (fidx size p)) : Nat)) (fun j2 => size - j2) (jj + 1)
          (.refl _) ⟨by omega, by omega, by rw [cntG, if_pos hpj, hcnt], fun p hp hpx => ?_⟩ ?_
        · by_cases he : fidx size p = jj
          · have hpe : p = fpos size jj := by rw [← he, fpos_fidx hF.ok (by omega)]
            rw [hg2e, he, hcnt, symSeq_eq sh (s := a) (by omega) (by omega) hai, hpe, upd_same]
          · have hne : p ≠ fpos size jj := fun h => he (by rw [h, fidx_fpos hF.ok hjlt])
            rw [hg2e, upd_other _ _ _ _ (by omega)]
            exact hg1 p hp (by omega)
        rintro j2 f ⟨k1, k2, k3, k4⟩
        refine go _ ?_
        refine J_condP rfl (fun hgt => ?_) (fun hngt => ?_)
        · have hj2 : j2 < size := by
            rcases Nat.lt_or_ge j2 size with h | h
            · exact h
            · exfalso
              have hje : j2 = size := by omega
              rw [hje, fpos_size] at hgt
              omega
          have hpl2 := fpos_lt hF.ok j2
          have hgeH : ¬ fpos size j2 < H := by omega
          refine go _ ?_
          refine ⟨j2 + 1, by omega, ⟨by omega, by omega, by rw [cntG, if_neg hgeH]; exact k3, fun p hp hpx => ?_⟩, ⟨rfl, rfl, rfl, rfl, rfl, rfl, rfl, by show Value.int .i64 (((fpos size j2 + fstep size) &&& (size - 1) : Nat) : Int) = Value.int .i64 ((fpos size (j2 + 1) : Nat) : Int); rw [hand, fpos_succ], rfl, rfl, rfl, rfl, rfl, rfl, rfl, rfl, trivial⟩, .refl _⟩
          by_cases he : fidx size p = j2
          · exfalso
            have hpe : p = fpos size j2 := by rw [← he, fpos_fidx hF.ok (by omega)]
            omega
          · exact k4 p hp (by omega)
        · have hpl2 := fpos_lt hF.ok j2
          refine go _ ?_
          refine ⟨(j + 1, j2, g2), by dsimp only; omega, ⟨by dsimp only; omega, k2, k3, fun _ => by dsimp only; omega, fun h => absurd h (by omega), k4, fun k hk => ?_, fun c hc => ?_⟩, ⟨rfl, rfl, rfl, rfl, rfl, rfl, rfl, rfl, rfl, rfl, rfl, rfl, rfl, rfl, rfl, rfl, trivial⟩, .refl _⟩
          · dsimp only
            rw [hg2e, upd_other _ _ _ _ (by omega)]
            exact hg2 k hk
          · have hc : 3 * size ≤ c := hc
            dsimp only
            rw [hg2e, upd_other _ _ _ _ (by omega)]
            exact hg3 c hc
      · refine go _ ?_
        have hje : j = (sh a).toNat := by omega
        subst hje
        exact ⟨(a + 1, jj, g1), by dsimp only; omega, ⟨by dsimp only; omega, hj, by dsimp only; rw [hps]; exact hcnt, hfp, hH0, hg1, hg2, hg3⟩, ⟨rfl, rfl, rfl, rfl, rfl, rfl, rfl, rfl, rfl, rfl, rfl, rfl, rfl, trivial⟩, .refl _⟩
    · have hai : a = i := by omega
      subst hai
      have hHs : H ≤ size := by omega
      have hpos0 : fpos size jj = 0 := by
        rcases Nat.eq_zero_or_pos H with h | h
        · rw [hH0 h, fpos_zero]
        · rw [fpos_end hF.ok hHs hj (hfp h) (by omega), fpos_size]
      have hjs : ∀ p, p < H → fidx size p < jj := fun p hp => by
        have h : 0 < H := by omega
        rw [fpos_end hF.ok hHs hj (hfp h) (by omega)]
        exact fidx_lt hF.ok p
      have htab : ∀ q, q < size → g1 (q * 3) = .int .u8 (symTab sh a size q : Nat) := fun q hq => by
        unfold symTab
        dsimp only
        rw [← hH]
        by_cases hqH : q < H
        · rw [if_pos hqH]; exact hg1 q hqH (hjs q hqH)
        · rw [if_neg hqH]
          have := hg2 (size - 1 - q) (by omega)
          rwa [show size - 1 - (size - 1 - q) = q by omega] at this
      have hsn : ∀ q, q < size → symTab sh a size q < a := fun q hq => by
        by_cases hqH : q < size - negCnt sh a
        · exact (symTab_low hF hqH).1
        · exact (symTab_high hqH hq).1
      rw [hpos0]
      refine go _ ?_
      refine J_condP rfl (fun h => absurd h (by simp)) (fun _ => ?_)
      refine go _ ?_
      refine J_loopL (σ := Nat × (Nat → Nat) × (Nat → Value)) [] (fun t => [(0, .pointer (some ⟨rb, 0, none⟩)), (1, .int .i64 off0), (3, .slice (some ⟨tb, 0, none⟩) tl tc), (4, .int .i64 (log : Nat)), (11, .int .i64 (size : Nat)), (13, .pointer (some ⟨xb, 0, none⟩)), (22, .int .i64 (t.1 : Nat))])
        (fun t => [(xb, arrB .u16 256 t.2.1 180), (nb, arrZ .i16 256 sh 176), (tb, ⟨TB.n, t.2.2, TB.T, (0, 0)⟩)])
        (fun t => t.1 ≤ size ∧ (∀ s, s < a → t.2.1 s = nx0 sh s + cntS (symTab sh a size) s t.1) ∧ (∀ q, q < size → t.2.2 (q * 3) = .int .u8 (symTab sh a size q : Nat)) ∧ (∀ q, q < t.1 → t.2.2 (q * 3 + 1) = .int .u8 (cellBits sh a log q : Nat) ∧ t.2.2 (q * 3 + 2) = .int .u16 (cellBase sh a log q : Nat)) ∧ ∀ c, 3 * size ≤ c → t.2.2 c = TB.g c) (fun t => size - t.1) (0, y, g1)
        (.refl _) ⟨Nat.zero_le _, fun s hs => hy s hs, htab, fun q hq => absurd hq (Nat.not_lt_zero _), hg3⟩ ?_
      clear htab hg1 hg2 hg3 hy hjs hpos0 hfp hH0 hcnt hj g1 jj y
      rintro ⟨p, y, g1⟩ f ⟨hp, hy, hg1, hg2, hg3⟩
      dsimp only at hp hy hg1 hg2 hg3 ⊢
      refine go _ ?_
      refine J_condP rfl (fun hlt3 => ?_) (fun hge3 => ?_)
      · have hps : p < size := by omega
        have hs := hsn p hps
        have hcp := cellN_pos hF hps
        have hcN : y (symTab sh a size p) = cellN sh a size p := hy _ hs
        have hF' := hF
        rw [hsz] at hF'
        obtain ⟨q1, q2, q3⟩ := cell_ok hF' (p := p) (by rw [← hsz]; exact hps)
        rw [← hsz] at q1 q3
        refine go _ ?_
        refine ro_loadI (v := .int .u8 (symTab sh a size p : Nat)) rfl rfl (.there (.there .here)) (by show _ < TB.n; omega) (by show g1 (0 + p * (2 + 1) + 0) = _; rw [show 0 + p * (2 + 1) + 0 = p * 3 by omega]; exact hg1 p hps) rfl ?_
        refine go _ ?_
        rw [show y (0 + symTab sh a size p) = cellN sh a size p by rw [Nat.zero_add]; exact hcN]
        have hb1 : blen (cellN sh a size p) = Nat.log2 (cellN sh a size p) + 1 := if_neg (by omega)
        have hb2 : blen (cellN sh a size p) ≤ 16 := blen_le (by omega)
        have hbits : cellBits sh a log p = log - Nat.log2 (cellN sh a size p) := by unfold cellBits; rw [← hsz]
        have hbase : cellBase sh a log p = cellN sh a size p * 2 ^ cellBits sh a log p - size := by unfold cellBase; rw [← hsz]
        have hlg : Nat.log2 (cellN sh a size p) ≤ log := by
          have := (Nat.log2_lt (n := cellN sh a size p) (k := log + 1) (by omega)).2 (by rw [Nat.pow_succ, ← hsz]; omega)
          omega
        obtain ⟨cN, hcNe⟩ : ∃ cN, cN = cellN sh a size p := ⟨_, rfl⟩
        rw [← hcNe] at hcp hcN q1 hb1 hb2 hbits hbase hlg ⊢
        have hsh : cN * 2 ^ cellBits sh a log p ≤ 2 * size := by
          rw [hbase] at q3
          generalize cN * 2 ^ cellBits sh a log p = M at q1 q3 ⊢
          have := Nat.one_le_two_pow (n := cellBits sh a log p)
          omega
        refine go _ ?_
        refine J_condP rfl (fun h0 => absurd h0 (by omega)) (fun _ => ?_)
        refine go _ ?_
        refine ro_callQT (lz16_q (x := cN) (by omega)) ?_
        rw [show 16 - blen cN = 15 - Nat.log2 cN by omega]
        refine go _ ?_
        rw [show 15 - (15 - Nat.log2 cN) = Nat.log2 cN by omega, ← hbits]
        refine ro_storeI (v := .int .u8 (cellBits sh a log p : Nat)) rfl rfl rfl rfl (.there (.there .here)) (by show _ < TB.n; omega) rfl hex ?_
        refine go _ ?_
        rw [← hbase]
        refine ro_storeI (v := .int .u16 (cellBase sh a log p : Nat)) rfl rfl rfl rfl (.there (.there .here)) (by show _ < TB.n; omega) rfl hex ?_
        refine go _ ?_
        refine ⟨(p + 1, updN y (0 + symTab sh a size p) (cN + 1), upd (upd g1 (p * 3 + 1) (.int .u8 (cellBits sh a log p : Nat))) (p * 3 + 2) (.int .u16 (cellBase sh a log p : Nat))), by dsimp only; omega, ⟨by dsimp only; omega, fun s' hs' => ?_, fun q hq => ?_, fun q hq => ?_, fun c hc => ?_⟩, ⟨rfl, rfl, rfl, rfl, rfl, rfl, rfl, trivial⟩, .skip (.skip (.cons ?_ .nil))⟩
        · show updN y (0 + symTab sh a size p) (cN + 1) s' = nx0 sh s' + cntS (symTab sh a size) s' (p + 1)
          rw [Nat.zero_add, cntS]
          by_cases he : s' = symTab sh a size p
          · rw [he, updN_same, if_pos rfl, ← Nat.add_assoc, ← hy _ hs, hcN]
          · rw [updN_other _ _ _ _ he, if_neg (fun h => he h.symm), Nat.add_zero]; exact hy s' hs'
        · show upd (upd g1 (p * 3 + 1) _) (p * 3 + 2) _ (q * 3) = _
          rw [upd_other _ _ _ _ (by omega), upd_other _ _ _ _ (by omega)]; exact hg1 q hq
        · have hq : q < p + 1 := hq
          show upd (upd g1 (p * 3 + 1) _) (p * 3 + 2) _ (q * 3 + 1) = _ ∧ upd (upd g1 (p * 3 + 1) _) (p * 3 + 2) _ (q * 3 + 2) = _
          by_cases he : q = p
          · subst he
            exact ⟨by rw [upd_other _ _ _ _ (by omega), upd_same], upd_same _ _ _⟩
          · rw [upd_other _ _ _ _ (by omega), upd_other _ _ _ _ (by omega), upd_other _ _ _ _ (by omega), upd_other _ _ _ _ (by omega)]
            exact hg2 q (by omega)
        · have hc : 3 * size ≤ c := hc
          show upd (upd g1 (p * 3 + 1) _) (p * 3 + 2) _ c = _
          rw [upd_other _ _ _ _ (by omega), upd_other _ _ _ _ (by omega)]; exact hg3 c hc
        · show (⟨TB.n, upd (upd g1 (0 + p * (2 + 1) + 1) (.int .u8 (cellBits sh a log p : Nat))) (0 + p * (2 + 1) + 2) (.int .u16 (cellBase sh a log p : Nat)), TB.T, (0, 0)⟩ : Blk).obj = _
          rw [show 0 + p * (2 + 1) + 1 = p * 3 + 1 by omega, show 0 + p * (2 + 1) + 2 = p * 3 + 2 by omega]
      · have hpe : p = size := by omega
        subst hpe
        refine go _ ?_
        refine J_ret ?_
        exact ends_retS [10] (post := [(nb, _), (tb, _)]) (junk := [(xb, _)]) ⟨rfl, g1, rfl, fun q hq => by rw [← hsz] at hq ⊢; exact ⟨hg1 q hq, hg2 q hq⟩, fun c hc => hg3 c (by rw [hsz]; exact hc)⟩ rfl (.of_perm (List.perm_append_comm (l₁ := [_]) (l₂ := [_, _])))
end Go.Proofs.YtogmacnlpclgkaaDoor
