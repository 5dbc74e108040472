/-
  TEXTS MERGED: W7, W8, W9, W14.
-/
import Derived.Test.YtogmacnlpclgkaaDoorK14
/-! WALKS 7: readFrameHeader. -/
namespace Go.Proofs.YtogmacnlpclgkaaDoor
open Go Go.Eng
attribute [local irreducible] RO J Trip Quiet
variable {G : Mem} {S : Sent G} {dat : Nat → Nat} {N : Nat}

theorem rfh_t (src : Source S dat N) (hd : ∀ i, dat i < 256) (hsk : SkipT src) (q0 : src.σ) (rb : Nat) (x : Int) (s : RS) (wm : Mem) (wl : Nat) (wc : Nat → Value) (hok : src.ok q0) (hrv : s.rv = .iface src.t src.rv) (hscr : ∀ i, s.scr i < 256) (hw : SlM 1 s.wd wl wc wm)
    (fb : Blk) (hfb : (2, fb) ∈ G) (hfn : 0 < fb.n) (hfv : fb.g 0 = .bool false) :
    Trip Tryd.prog G 28 #[.pointer (some ⟨rb, 0, none⟩)] ((rb, rdB x s) :: (src.mem q0 ++ wm)) (HdrPost src rb s (src.pos q0) wm) := by
  obtain ⟨s, rfl⟩ : ∃ s', s = { s' with rv := .iface src.t src.rv } := ⟨s, by cases s; simp only at hrv; rw [hrv]⟩
  clear hrv
  refine Trip_of Tryd.func28 rfl (by show 1 ≤ _; decide) (args := [.pointer (some ⟨rb, 0, none⟩)]) fun c h0 hex => ?_
  refine run _ ?_
  refine J_scopeS (σ := Int × Bool × (Nat → Nat) × src.σ) 0 (fun _ => [(0, .pointer (some ⟨rb, 0, none⟩))]) (fun z => (rb, rdB z.1 { s with rv := .iface src.t src.rv, one := z.2.1, scr := z.2.2.1 }) :: (src.mem z.2.2.2 ++ wm))
    (fun z => src.ok z.2.2.2 ∧ (∀ i, z.2.2.1 i < 256) ∧ z.2.1 = (s.one || decide (src.pos z.2.2.2 ≠ src.pos q0)) ∧ src.pos q0 ≤ src.pos z.2.2.2 ∧ ∃ k, N - src.pos z.2.2.2 ≤ k ∧ skipTo dat N N (src.pos q0) = skipTo dat N k (src.pos z.2.2.2)) (fun z => N - src.pos z.2.2.2) (x, s.one, s.scr, q0) ⟨rfl, trivial⟩ (.refl _)
    ⟨hok, hscr, by simp, Nat.le_refl _, N, by simp only; omega, rfl⟩ ?_
  rintro ⟨x1, one1, scr1, q1⟩ f ⟨i1, i2, i3, i4, k, i5, i6⟩
  simp only at i1 i2 i3 i4 i5 i6
  have lim := src.le q1 i1
  have hbad : skipTo dat N N (src.pos q0) = src.pos q1 → ∀ (x' : Int) (scr' : Nat → Nat) (q' : src.σ) (v : Value) (sum : Option Bool) (pos : Nat), hdrAt dat N (src.pos q1) = .bad sum pos → src.ok q' → (∀ i, scr' i < 256) → src.pos q' = pos → ErrV S .z v →
      HdrPost src rb { s with rv := .iface src.t src.rv } (src.pos q0) wm v ((rb, rdB x' (RS.setSum { s with rv := .iface src.t src.rv, one := one1 } scr' sum)) :: (src.mem q' ++ wm)) := fun e1 x' scr' q' v sum pos e2 a1 a2 a3 a4 => by
    refine ⟨x', scr', q', a1, a2, ?_⟩
    simp only [e1, e2]
    refine ⟨a3, ?_, a4⟩
    rw [i3]
    exact .refl _
  have hsk0 : N - src.pos q1 < 4 → skipTo dat N k (src.pos q1) = src.pos q1 := fun h => by
    cases k with
    | zero => rfl
    | succ k => rw [skipTo, if_neg]; simp [wholeSkip, isSkip]; omega
  refine run _ ?_
  refine ro_arrTo 4 rfl rfl rfl rfl (by omega) rfl ?_
  refine runO _ ?_
  refine ro_callT (rfull_t src q1 rb x1 { s with rv := .iface src.t src.rv, one := one1, scr := scr1 } 4 i1 (by omega)) ?_
  rintro v m ⟨q2, k2, g1, g2, g3, rfl, rfl⟩
  have hsc2 : ∀ i, ov scr1 k2 dat (src.pos q1) i < 256 := fun i => by unfold ov; split; exact hd _; exact i2 _
  by_cases h4 : 4 ≤ k2
  · rw [fullV_ok h4]
    obtain rfl : k2 = 4 := by omega
    have hN4 : 4 ≤ N - src.pos q1 := by omega
    refine runO _ ?_
    refine run _ ?_
    refine ro_arrTo 4 rfl rfl rfl rfl (by omega) rfl ?_
    refine runO _ ?_
    refine ro_callQT (le32_q G _ rb 28 4 16 _ _ (scr_text rb x1 _ (by simp; exact .inl rfl) 0 4 (by omega) hsc2) (by omega)) ?_
    have hle : le4 (fun i => ov scr1 4 dat (src.pos q1) (0 + i)) = magicAt dat (src.pos q1) := by simp [le4, ov, magicAt]
    simp only [hle]
    have hlt : magicAt dat (src.pos q1) < 4294967296 := le4_lt _ (fun i => hd _)
    have hmg : ∃ mg, magicAt dat (src.pos q1) = mg := ⟨_, rfl⟩
    obtain ⟨mg, hmg⟩ := hmg
    rw [hmg] at hlt
    simp only [hmg]
    have hsk1 : isSkip dat N (src.pos q1) = false → skipTo dat N k (src.pos q1) = src.pos q1 := fun h => by
      cases k with
      | zero => rfl
      | succ k => rw [skipTo, if_neg]; simp [wholeSkip, h]
    have hbadm : mg ≠ 4247762216 → isSkip dat N (src.pos q1) = false → hdrAt dat N (src.pos q1) = .bad none (src.pos q1 + 4) := fun h1 h2 => by
      unfold hdrAt; rw [if_neg (by omega), if_pos (by rw [hmg]; exact h1), if_neg (by rw [h2]; exact Bool.false_ne_true)]
    refine runO _ ?_
    refine run _ ?_
    refine J_condP rfl (fun hne => ?_) (fun heq => ?_)
    · have hne' : mg ≠ 4247762216 := by omega
      refine run _ ?_
      refine ro_splitP 68 rfl (fun hge => ?_) (fun hge => ?_)
      · refine runO _ ?_
        refine run _ ?_
        refine J_condP rfl (fun hle2 => ?_) (fun hle2 => ?_)
        · have hskip : isSkip dat N (src.pos q1) = true := by simp only [isSkip, hmg, Bool.and_eq_true, decide_eq_true_eq]; omega
          refine run _ ?_
          refine ro_bin (op := .add) rfl rfl rfl rfl ?_
          refine runO _ ?_
          refine J_eqv (.cons (rd_boff _ _ _) (.refl _)) ?_
          refine run _ ?_
          refine ro_callT (hsk q2 rb _ { s with rv := .iface src.t src.rv, one := one1, scr := ov scr1 4 dat (src.pos q1) } g1 rfl hsc2) ?_
          rintro v m ⟨x3, q3, k3, j1, j2, rfl, j3⟩
          have hsc3 : ∀ i, ov (ov scr1 4 dat (src.pos q1)) k3 dat (src.pos q2) i < 256 := fun i => by unfold ov; split; exact hd _; exact hsc2 _
          have hz4 : (le4 fun i => dat (src.pos q2 + i)) = magicAt dat (src.pos q1 + 4) := by unfold magicAt; rw [g3]
          rw [hz4, g3] at j3
          rcases j3 with ⟨j3, rfl, j4⟩ | ⟨j3, ⟨b', rfl⟩, j4⟩
          · refine runO _ ?_
            refine run _ ?_
            refine J_goto ?_
            have hwh : wholeSkip dat N (src.pos q1) = true := by simp only [wholeSkip, hskip, Bool.true_and, decide_eq_true_eq]; omega
            obtain ⟨k', rfl⟩ : ∃ k', k = k' + 1 := ⟨k - 1, by omega⟩
            refine ⟨rfl, (x3, true, _, q3), by simp only; omega, ⟨j1, hsc3, ?_, by simp only; omega, k', by simp only; omega, ?_⟩, ⟨rfl, trivial⟩, .cons (rd_one _ _) (.refl _)⟩
            · simp only; rw [decide_eq_true (by omega)]; simp
            · simp only; rw [i6, skipTo, if_pos hwh, j4]
          · refine runO _ ?_
            refine run _ ?_
            refine J_ret ?_
            have hst : skipTo dat N k (src.pos q1) = src.pos q1 := by
              cases k with
              | zero => rfl
              | succ k => rw [skipTo, if_neg]; simp only [wholeSkip, hskip, Bool.true_and, decide_eq_true_eq]; omega
            have e1 : skipTo dat N N (src.pos q0) = src.pos q1 := by rw [i6, hst]
            have e2 : hdrAt dat N (src.pos q1) = .bad none N := by
              unfold hdrAt; rw [if_neg (by omega), if_pos (by rw [hmg]; exact hne'), if_pos hskip]
            exact ends_retS [2] (hbad e1 x3 _ q3 _ none N e2 j1 hsc3 j4 ⟨b', rfl⟩)
        · refine run _ ?_
          refine ro_callT (merr_t S rb x1 _ 0 _) ?_
          rintro v m ⟨⟨b', rfl⟩, rfl⟩
          refine runO _ ?_
          refine run _ ?_
          refine J_ret ?_
          have hns : isSkip dat N (src.pos q1) = false := by simp only [isSkip, hmg, Bool.and_eq_false_iff, decide_eq_false_iff_not]; omega
          exact ends_retS [2] (hbad (by rw [i6, hsk1 hns]) x1 _ q2 _ none _ (hbadm hne' hns) g1 hsc2 g3 ⟨b', rfl⟩)
      · refine runO _ ?_
        refine run _ ?_
        refine ro_callT (merr_t S rb x1 _ 0 _) ?_
        rintro v m ⟨⟨b', rfl⟩, rfl⟩
        refine runO _ ?_
        refine run _ ?_
        refine J_ret ?_
        have hns : isSkip dat N (src.pos q1) = false := by simp only [isSkip, hmg, Bool.and_eq_false_iff, decide_eq_false_iff_not]; omega
        exact ends_retS [2] (hbad (by rw [i6, hsk1 hns]) x1 _ q2 _ none _ (hbadm hne' hns) g1 hsc2 g3 ⟨b', rfl⟩)
    · have hmg' : magicAt dat (src.pos q1) = 4247762216 := by omega
      have hst : skipTo dat N k (src.pos q1) = src.pos q1 := hsk1 (by simp [isSkip, hmg'])
      have e1 : skipTo dat N N (src.pos q0) = src.pos q1 := by rw [i6, hst]
      have hone : one1 = (s.one || decide (skipTo dat N N (src.pos q0) ≠ src.pos q0)) := by rw [e1]; exact i3
      generalize hp : src.pos q1 = p at *
      refine run _ ?_
      refine ro_arrTo 1 rfl rfl rfl rfl (by omega) rfl ?_
      refine runO _ ?_
      refine ro_callT (rfull_t src q2 rb x1 { s with rv := .iface src.t src.rv, one := one1, scr := ov scr1 4 dat p } 1 g1 (by omega)) ?_
      rintro v m ⟨q3, k3, j1, j2, j3, rfl, rfl⟩
      rw [g3] at j2 j3
      rw [g3]
      have hmag : ¬ magicAt dat p ≠ 4247762216 := by omega
      by_cases h4' : 1 ≤ k3
      · rw [fullV_ok h4']
        obtain rfl : k3 = 1 := by omega
        have hd4 := hd (p + 4)
        obtain ⟨bt1, bt2, bt3, bt4, bt5⟩ := bits_of hd4
        have hq4 : dat (p + 4) / 64 = 0 ∨ dat (p + 4) / 64 = 1 ∨ dat (p + 4) / 64 = 2 ∨ dat (p + 4) / 64 = 3 := by omega
        have hsc3 := ov_lt hsc2 hd 1 (p + 4)
        refine runO _ ?_
        refine run _ ?_
        refine ro_andN (dat (p + 4)) 32 rfl rfl (by show _ < 256; omega) (by decide) rfl ?_
        refine ro_neIntB (hSingle (dat (p + 4))) rfl rfl (by rw [← bt1]; omega) rfl ?_
        refine runO _ ?_
        refine run _ ?_
        refine ro_shlN 1 (dat (p + 4) / 64) rfl rfl (by show _ ≤ 64; omega) (by rcases hq4 with h | h | h | h <;> rw [h] <;> decide) rfl ?_
        refine runO _ ?_
        refine J_seq ?_
        refine J_cut [(0, .pointer (some ⟨rb, 0, none⟩)), (3, .int .i64 4), (10, .int .u8 (dat (p + 4))), (11, .bool (hSingle (dat (p + 4)))), (12, .int .i64 (hFcs (dat (p + 4))))]
          ((rb, rdB x1 { s with rv := .iface src.t src.rv, one := one1, scr := ov (ov scr1 4 dat p) 1 dat (p + 4) }) :: (src.mem q3 ++ wm)) ?_ ?_
        · refine run _ ?_
          refine ro_splitP 125 rfl (fun hf1 => ?_) (fun hf1 => ?_)
          · have hq0 : dat (p + 4) / 64 = 0 := by
              rcases hq4 with h | h | h | h
              · exact h
              all_goals (rw [h] at hf1; exact absurd hf1 (by decide))
            refine runO _ ?_
            refine ro_not rfl rfl ?_
            refine runO _ ?_
            refine run _ ?_
            refine J_cond rfl (fun hs => ?_) (fun hs => ?_)
            · refine run _ ?_
              refine ⟨⟨rfl, rfl, rfl, rfl, ?_, trivial⟩, .refl _⟩
              have : hFcs (dat (p + 4)) = 0 := by unfold hFcs; rw [if_pos hq0, if_neg (by simpa using hs)]
              rw [this]; rfl
            · refine run _ ?_
              refine ⟨⟨rfl, rfl, rfl, rfl, ?_, trivial⟩, .refl _⟩
              have : hFcs (dat (p + 4)) = 1 * 2 ^ (dat (p + 4) / 64) := by unfold hFcs; rw [if_pos hq0, if_pos (by simpa using hs), hq0]
              rw [this]; rfl
          · have hq0 : dat (p + 4) / 64 ≠ 0 := fun h => hf1 (by rw [h]; rfl)
            refine runO _ ?_
            refine run _ ?_
            refine ⟨⟨rfl, rfl, rfl, rfl, ?_, trivial⟩, .refl _⟩
            have : hFcs (dat (p + 4)) = 1 * 2 ^ (dat (p + 4) / 64) := by unfold hFcs; rw [if_neg hq0]; omega
            rw [this]; rfl
        · generalize hg3 : ov (ov scr1 4 dat p) 1 dat (p + 4) = scr3 at hsc3 ⊢
          intro f
          refine run _ ?_
          refine J_cut [(0, .pointer (some ⟨rb, 0, none⟩)), (3, .int .i64 4), (10, .int .u8 (dat (p + 4))), (11, .bool (hSingle (dat (p + 4)))), (12, .int .i64 (hFcs (dat (p + 4)))), (13, .int .i64 (hWin (dat (p + 4))))]
            ((rb, rdB x1 { s with rv := .iface src.t src.rv, one := one1, scr := scr3 }) :: (src.mem q3 ++ wm)) ?_ ?_
          · refine J_cond rfl (fun hs => ?_) (fun hs => ?_)
            · refine run _ ?_
              exact ⟨⟨rfl, rfl, rfl, rfl, rfl, by unfold hWin; rw [if_pos hs]; rfl, trivial⟩, .refl _⟩
            · refine run _ ?_
              exact ⟨⟨rfl, rfl, rfl, rfl, rfl, by unfold hWin; rw [if_neg (by rw [hs]; exact Bool.false_ne_true)]; rfl, trivial⟩, .refl _⟩
          intro f
          refine run _ ?_
          refine ro_andN (dat (p + 4)) 8 rfl rfl (by show _ < 256; omega) (by decide) rfl ?_
          refine runO _ ?_
          refine run _ ?_
          refine J_condP rfl (fun hres => ?_) (fun hres => ?_)
          · have hres' := bt2.1 (by omega)
            refine run _ ?_
            refine ro_callT (merr_t S rb x1 _ _ _) ?_
            rintro v m ⟨⟨b', rfl⟩, rfl⟩
            refine runO _ ?_
            refine run _ ?_
            refine J_ret ?_
            have e2 : hdrAt dat N p = .bad none (p + 5) := by
              unfold hdrAt; rw [if_neg (by omega), if_neg hmag, if_neg (by omega), if_pos hres']
            exact ends_retS [2] (hbad e1 x1 _ q3 _ none _ e2 j1 hsc3 (by omega) ⟨b', rfl⟩)
          · have hres' : ¬ dat (p + 4) / 8 % 2 = 1 := fun h => hres (by have := bt2.2 h; omega)
            refine run _ ?_
            refine ro_andN (dat (p + 4)) 4 rfl rfl (by show _ < 256; omega) (by decide) rfl ?_
            refine ro_neIntB (hSum (dat (p + 4))) rfl rfl (by rw [← bt3]; omega) rfl ?_
            refine runO _ ?_
            refine J_eqv (.cons (rd_sum _ _ _) (.refl _)) ?_
            refine run _ ?_
            refine J_cut [(0, .pointer (some ⟨rb, 0, none⟩)), (3, .int .i64 4), (10, .int .u8 (dat (p + 4))), (11, .bool (hSingle (dat (p + 4)))), (12, .int .i64 (hFcs (dat (p + 4)))), (13, .int .i64 (hWin (dat (p + 4))))]
              ((rb, rdB x1 (RS.setSum { s with rv := .iface src.t src.rv, one := one1 } scr3 (some (hSum (dat (p + 4)))))) :: (src.mem q3 ++ wm)) ?_ ?_
            · refine J_cond rfl (fun hs => ?_) (fun hs => ?_)
              · refine run _ ?_
                refine ro_callT (xreset_t G rb x1 _) ?_
                rintro v m rfl
                refine runO _ ?_
                refine ⟨⟨rfl, rfl, rfl, rfl, rfl, rfl, trivial⟩, ?_⟩
                have hs : hSum (dat (p + 4)) = true := hs
                rw [hs]; exact .refl _
              · refine run _ ?_
                refine ⟨⟨rfl, rfl, rfl, rfl, rfl, rfl, trivial⟩, ?_⟩
                have hs : hSum (dat (p + 4)) = false := hs
                rw [hs]; exact .refl _
            intro f
            refine run _ ?_
            refine ro_andN (dat (p + 4)) 3 rfl rfl (by show _ < 256; omega) (by decide) rfl ?_
            rw [bt4]
            refine runO _ ?_
            refine run _ ?_
            have hm4 : dat (p + 4) % 4 = 0 ∨ dat (p + 4) % 4 = 1 ∨ dat (p + 4) % 4 = 2 ∨ dat (p + 4) % 4 = 3 := by omega
            refine J_cut [(0, .pointer (some ⟨rb, 0, none⟩)), (3, .int .i64 4), (10, .int .u8 (dat (p + 4))), (11, .bool (hSingle (dat (p + 4)))), (12, .int .i64 (hFcs (dat (p + 4)))), (13, .int .i64 (hWin (dat (p + 4)))), (14, .int .i64 (hDict (dat (p + 4))))]
              ((rb, rdB x1 (RS.setSum { s with rv := .iface src.t src.rv, one := one1 } scr3 (some (hSum (dat (p + 4)))))) :: (src.mem q3 ++ wm)) ?_ ?_
            · refine J_condP rfl (fun hs => ?_) (fun hs => ?_)
              · refine run _ ?_
                refine ro_shlN (k' := .u8) 1 (dat (p + 4) % 4 - 1) rfl ?_ (by show _ ≤ 64; omega) (by rcases hm4 with h | h | h | h <;> rw [h] <;> decide) rfl ?_
                · show Value.int .u8 _ = Value.int .u8 _
                  congr 1; omega
                refine runO _ ?_
                refine ⟨⟨rfl, rfl, rfl, rfl, rfl, rfl, ?_, trivial⟩, .refl _⟩
                have : hDict (dat (p + 4)) = 1 * 2 ^ (dat (p + 4) % 4 - 1) := by
                  unfold hDict
                  rcases hm4 with h | h | h | h
                  · exact absurd hs (by rw [h]; decide)
                  all_goals rw [h]; rfl
                rw [this]; rfl
              · refine run _ ?_
                refine ⟨⟨rfl, rfl, rfl, rfl, rfl, rfl, ?_, trivial⟩, .refl _⟩
                have : hDict (dat (p + 4)) = 0 := by
                  unfold hDict
                  rcases hm4 with h | h | h | h
                  · rw [h]; rfl
                  all_goals (rw [h] at hs; exact absurd (by decide) hs)
                rw [this]; rfl
            intro f
            have hf8 : hFcs (dat (p + 4)) ≤ 8 := by
              unfold hFcs
              split
              · split <;> omega
              · rcases hq4 with h | h | h | h <;> rw [h] <;> decide
            have hw1 : hWin (dat (p + 4)) ≤ 1 := by unfold hWin; split <;> omega
            have hd4' : hDict (dat (p + 4)) ≤ 4 := by unfold hDict; split <;> omega
            have hA : hAll (dat (p + 4)) = hWin (dat (p + 4)) + hDict (dat (p + 4)) + hFcs (dat (p + 4)) := rfl
            have e3 : N - (p + 4) ≥ 1 := by omega
            refine J_seq ?_
            refine J_cut [(0, .pointer (some ⟨rb, 0, none⟩)), (3, .int .i64 5), (10, .int .u8 (dat (p + 4))), (11, .bool (hSingle (dat (p + 4)))), (12, .int .i64 (hFcs (dat (p + 4)))), (13, .int .i64 (hWin (dat (p + 4)))), (14, .int .i64 (hDict (dat (p + 4))))]
              ((rb, rdB x1 (RS.setSum { s with rv := .iface src.t src.rv, one := one1 } scr3 (some (hSum (dat (p + 4)))))) :: (src.mem q3 ++ wm)) ?_ ?_
            · refine run _ ?_
              show slotsOk _ _ ∧ MEqv _ _
              exact ⟨⟨rfl, rfl, rfl, rfl, rfl, rfl, rfl, trivial⟩, .refl _⟩
            clear f
            intro f
            refine J_seq ?_
            refine J_cut [(0, .pointer (some ⟨rb, 0, none⟩)), (3, .int .i64 5), (10, .int .u8 (dat (p + 4))), (11, .bool (hSingle (dat (p + 4)))), (12, .int .i64 (hFcs (dat (p + 4)))), (13, .int .i64 (hWin (dat (p + 4)))), (14, .int .i64 (hDict (dat (p + 4)))), (16, .int .i64 (hAll (dat (p + 4))))]
              ((rb, rdB x1 (RS.setSum { s with rv := .iface src.t src.rv, one := one1 } scr3 (some (hSum (dat (p + 4)))))) :: (src.mem q3 ++ wm)) ?_ ?_
            · refine run _ ?_
              show slotsOk _ _ ∧ MEqv _ _
              exact ⟨⟨rfl, rfl, rfl, rfl, rfl, rfl, rfl, rfl, trivial⟩, .refl _⟩
            clear f
            intro f
            refine J_seq ?_
            refine J_cutE (σ := src.σ) (fun _ => [(0, .pointer (some ⟨rb, 0, none⟩)), (3, .int .i64 5), (10, .int .u8 (dat (p + 4))), (11, .bool (hSingle (dat (p + 4)))), (12, .int .i64 (hFcs (dat (p + 4)))), (13, .int .i64 (hWin (dat (p + 4)))), (14, .int .i64 (hDict (dat (p + 4)))), (16, .int .i64 (hAll (dat (p + 4))))])
              (fun q => (rb, rdB x1 (RS.setSum { s with rv := .iface src.t src.rv, one := one1 } (ov scr3 (hAll (dat (p + 4))) dat (p + 5)) (some (hSum (dat (p + 4)))))) :: (src.mem q ++ wm))
              (fun q => src.ok q ∧ src.pos q = p + 5 + hAll (dat (p + 4)) ∧ hAll (dat (p + 4)) ≤ N - (p + 5)) ?_ ?_
            · refine run _ ?_
              refine ro_arrTo (hAll (dat (p + 4))) rfl rfl rfl rfl (by omega) rfl ?_
              refine runO _ ?_
              refine ro_callT (rfull_t src q3 rb x1 (RS.setSum { s with rv := .iface src.t src.rv, one := one1 } scr3 (some (hSum (dat (p + 4))))) (hAll (dat (p + 4))) j1 (by omega)) ?_
              rintro v m ⟨q4, k4, l1, l2, l3, rfl, rfl⟩
              rw [j3] at l2 l3
              rw [j3]
              have hsc4 := ov_lt hsc3 hd k4 (p + 5)
              by_cases h6 : hAll (dat (p + 4)) ≤ k4
              · rw [fullV_ok h6]
                obtain rfl : k4 = hAll (dat (p + 4)) := by omega
                refine runO _ ?_
                refine run _ ?_
                exact ⟨q4, ⟨l1, by omega, by omega⟩, ⟨rfl, rfl, rfl, rfl, rfl, rfl, rfl, rfl, trivial⟩, .refl _⟩
              · have e2 : hdrAt dat N p = .bad (some (hSum (dat (p + 4)))) N := by
                  unfold hdrAt; rw [if_neg (by omega), if_neg hmag, if_neg (by omega)]
                  simp only
                  rw [if_neg hres', if_pos (by omega)]
                by_cases h7 : k4 = 0
                · rw [fullV_eof h6 h7]
                  refine runO _ ?_
                  refine run _ ?_
                  refine ro_callT (wnonE_t S rb x1 _ _) ?_
                  rintro v m ⟨⟨b', rfl⟩, rfl⟩
                  refine runO _ ?_
                  refine run _ ?_
                  refine J_ret ?_
                  exact ends_retS [2] (hbad e1 x1 _ q4 _ (some (hSum (dat (p + 4)))) _ e2 l1 hsc4 (by omega) ⟨b', rfl⟩)
                · rw [fullV_ueof h6 h7]
                  refine runO _ ?_
                  refine run _ ?_
                  refine ro_callT (wnonU_t S rb x1 _ _) ?_
                  rintro v m ⟨⟨b', rfl⟩, rfl⟩
                  refine runO _ ?_
                  refine run _ ?_
                  refine J_ret ?_
                  exact ends_retS [2] (hbad e1 x1 _ q4 _ (some (hSum (dat (p + 4)))) _ e2 l1 hsc4 (by omega) ⟨b', rfl⟩)
            clear f
            rintro q4 f ⟨l1, l3, l2⟩
            have hsc4 := ov_lt hsc3 hd (hAll (dat (p + 4))) (p + 5)
            refine rfh2_t (S := S) hd c h0 hex rb x1 (RS.setSum { s with rv := .iface src.t src.rv, one := one1 } (ov scr3 (hAll (dat (p + 4))) dat (p + 5)) (some (hSum (dat (p + 4))))) (dat (p + 4)) p wm (src.mem q4) wl wc hd4 hsc4
              (fun i hi => by show ov scr3 (hAll (dat (p + 4))) dat (p + 5) i = _; unfold ov; rw [if_pos hi]) hw fb hfb hfn hfv _ _ ?_ ?_ f
            · intro hz x' v he
              have e2 : hdrAt dat N p = .bad (some (hSum (dat (p + 4)))) (p + 5 + hAll (dat (p + 4))) := by
                unfold hdrAt; rw [if_neg (by omega), if_neg hmag, if_neg (by omega)]
                simp only
                rw [if_neg hres', if_neg (by omega), if_pos hz]
              exact hbad e1 x' _ q4 _ (some (hSum (dat (p + 4)))) _ e2 l1 hsc4 l3 he
            · intro hz x' wd' wm' m hw' hm
              refine ⟨x', _, q4, l1, hsc4, ?_⟩
              have e2 : hdrAt dat N p = .ok (hSum (dat (p + 4))) (hFcs (dat (p + 4)) != 0) (hSize dat (dat (p + 4)) (p + 5 + hWin (dat (p + 4)) + hDict (dat (p + 4))))
                  (min 8388608 (if hSingle (dat (p + 4)) then hSize dat (dat (p + 4)) (p + 5 + hWin (dat (p + 4)) + hDict (dat (p + 4))) else hWindow (dat (p + 5)))) (p + 5 + hAll (dat (p + 4))) := by
                unfold hdrAt; rw [if_neg (by omega), if_neg hmag, if_neg (by omega)]
                simp only
                rw [if_neg hres', if_neg (by omega), if_neg (by rw [hz]; decide)]
              simp only [e1, e2]
              refine ⟨l3, by trivial, wd', wm', hw', ?_⟩
              rw [i3] at hm
              exact hm
      · have hk3 : k3 = 0 := by omega
        rw [fullV_eof h4' hk3]
        refine runO _ ?_
        refine run _ ?_
        refine ro_callT (wnonE_t S rb x1 _ _) ?_
        rintro v m ⟨⟨b', rfl⟩, rfl⟩
        refine runO _ ?_
        refine run _ ?_
        refine J_ret ?_
        have e2 : hdrAt dat N p = .bad none N := by
          unfold hdrAt; rw [if_neg (by omega), if_neg hmag, if_pos (by omega)]
        exact ends_retS [2] (hbad e1 x1 _ q3 _ none N e2 j1 (ov_lt hsc2 hd _ _) (by omega) ⟨b', rfl⟩)
  · have hsh := hsk0 (by omega)
    have hpost : ∀ (v : Value) (m : Mem), m = (rb, rdB x1 { s with rv := .iface src.t src.rv, one := one1, scr := ov scr1 k2 dat (src.pos q1) }) :: (src.mem q2 ++ wm) → ErrV S (if N - src.pos q1 = 0 ∧ one1 = true then .eof else .z) v →
        HdrPost src rb { s with rv := .iface src.t src.rv } (src.pos q0) wm v m := fun v m hm he => by
      refine ⟨x1, _, q2, g1, hsc2, ?_⟩
      have e1 : skipTo dat N N (src.pos q0) = src.pos q1 := by rw [i6, hsh]
      have e2 : hdrAt dat N (src.pos q1) = .short := by unfold hdrAt; rw [if_pos (by omega)]
      simp only [e1, e2]
      refine ⟨by omega, ?_, by rw [← i3]; exact he⟩
      rw [hm, i3]
      exact .refl _
    by_cases h5 : k2 = 0
    · rw [fullV_eof h4 h5]
      refine runO _ ?_
      refine run _ ?_
      refine ro_loadA rfl rfl (by simp [S.e0]) S.e0n S.e0g rfl ?_
      refine runO _ ?_
      obtain ⟨i, hi, hcmp⟩ := ptrInfo
      refine ro_eqPtrs (r := true) (B := S.E1) (B' := S.E1) rfl rfl rfl rfl hi hcmp rfl (.inl ⟨rfl, by simp⟩) rfl ?_
      refine runO _ ?_
      cases one1 with
      | true =>
        refine runO _ ?_
        refine run _ ?_
        refine ro_callT (wrapError_eof G S rb 0) ?_
        rintro v m ⟨rfl, rfl⟩
        refine runO _ ?_
        refine run _ ?_
        refine J_ret ?_
        exact ends_retS [2] (hpost _ _ rfl (by rw [if_pos ⟨by omega, rfl⟩]; rfl))
      | false =>
        refine runO _ ?_
        refine run _ ?_
        refine ro_loadA rfl rfl (by simp [S.u0]) S.u0n S.u0g rfl ?_
        refine runO _ ?_
        refine run _ ?_
        refine ro_callT (wueof_t S rb x1 _ 0) ?_
        rintro v m ⟨⟨b', rfl⟩, rfl⟩
        refine runO _ ?_
        refine run _ ?_
        refine J_ret ?_
        exact ends_retS [2] (hpost _ _ rfl (by rw [if_neg (by simp)]; exact ⟨b', rfl⟩))
    · rw [fullV_ueof h4 h5]
      refine runO _ ?_
      refine run _ ?_
      refine ro_loadA rfl rfl (by simp [S.e0]) S.e0n S.e0g rfl ?_
      refine runO _ ?_
      obtain ⟨i, hi, hcmp⟩ := ptrInfo
      refine ro_eqPtrs (r := false) (B := S.U1) (B' := S.E1) rfl rfl rfl rfl hi hcmp rfl ?_ rfl ?_
      · by_cases hb : S.ub = S.eb
        · exact .inl ⟨hb, by have := S.ne.resolve_left (fun h => h hb); simp [this]⟩
        · exact .inr ⟨hb, rfl, by simp [S.u1], by simp [S.e1], S.u1f, S.e1f⟩
      refine runO _ ?_
      refine run _ ?_
      refine ro_callT (wueof_t S rb x1 _ 0) ?_
      rintro v m ⟨⟨b', rfl⟩, rfl⟩
      refine runO _ ?_
      refine run _ ?_
      refine J_ret ?_
      exact ends_retS [2] (hpost _ _ rfl (by rw [if_neg (by omega)]; exact ⟨b', rfl⟩))
end Go.Proofs.YtogmacnlpclgkaaDoor

/-! WALKS 8: Reset, NewReader. -/
namespace Go.Proofs.YtogmacnlpclgkaaDoor
open Go Go.Eng
attribute [local irreducible] RO J Trip Quiet

def RS.reset (s : RS) (v : Value) (buf : Value) : RS := { s with rv := v, saw := false, sum := false, one := false, unk := false, rem := 0, buf := buf, off := 0 }
theorem rd_reset (x : Int) (s : RS) (v buf : Value) : ((((((((((rdB x s).st 0 v).st 1 (.bool false)).st 2 (.bool false)).st 3 (.bool false)).st 4 (.bool false)).st 5 (.int .u64 0)).st 6 (.int .i64 0)).st 7 buf).st 8 (.int .i64 0)).obj = (rdB 0 (s.reset v buf)).obj := blk_tab rfl rfl rfl rfl

theorem reset_t (G : Mem) (rb : Nat) (x : Int) (s : RS) (t : TypeId) (rv : Value) (buf' : Value) (hb : (s.buf = .slice none 0 0 ∧ buf' = .slice none 0 0) ∨ ∃ b o l cp, l ≤ cp ∧ s.buf = .slice (some ⟨b, o, none⟩) l cp ∧ buf' = .slice (some ⟨b, o, none⟩) 0 cp) :
    Trip Tryd.prog G 29 #[.pointer (some ⟨rb, 0, none⟩), .iface t rv] [(rb, rdB x s)] (fun _ m => m = [(rb, rdB 0 (s.reset (.iface t rv) buf'))]) := by
  refine Trip_of Tryd.func29 rfl (by show 2 ≤ _; decide) (args := [.pointer (some ⟨rb, 0, none⟩), .iface t rv]) fun c h0 hex => ?_
  rcases hb with ⟨h1, rfl⟩ | ⟨b, o, l, cp, h0l, h1, rfl⟩
  · refine run _ ?_
    refine ro_sliceNil h1 rfl rfl rfl rfl rfl ?_
    refine runO _ ?_
    refine run _ ?_
    exact ends_normalS [] (post := [(rb, rdB 0 _)]) (junk := []) rfl rfl (.cons (rd_reset x s _ _) .nil)
  · refine run _ ?_
    refine ro_slTo 0 h1 rfl rfl rfl (by omega) rfl ?_
    refine runO _ ?_
    refine run _ ?_
    exact ends_normalS [] (post := [(rb, rdB 0 _)]) (junk := []) rfl rfl (.cons (rd_reset x s _ _) .nil)

/-- A new Reader. -/
def RS.zero : RS where
  rv := .nilIface
  saw := false
  sum := false
  one := false
  unk := false
  rem := 0
  buf := .slice none 0 0
  off := 0
  r1 := 0
  r2 := 0
  r3 := 0
  ht := .slice none 0 0
  hb := 0
  wsz := 0
  wd := .slice none 0 0
  wo := 0
  cb := .slice none 0 0
  lit := .slice none 0 0
  st0 := .slice none 0 0
  st1 := .slice none 0 0
  st2 := .slice none 0 0
  sb0 := 0
  sb1 := 0
  sb2 := 0
  tb0 := .slice none 0 0
  tb1 := .slice none 0 0
  tb2 := .slice none 0 0
  scr := fun _ => 0
  fs := .slice none 0 0
  xl := 0
  xv := fun _ => 0
  xb := fun _ => 0
  xc := 0
theorem zRd : zeroL Tryd.prog 90 = some (rdL 0 RS.zero) := by kernel_rfl

theorem newReader_t (G : Mem) (t : TypeId) (rv : Value) : Trip Tryd.prog G 24 #[.iface t rv] [] (fun v m => ∃ rb, v = .pointer (some ⟨rb, 0, none⟩) ∧ m = [(rb, rdB 0 (RS.zero.reset (.iface t rv) (.slice none 0 0)))]) := by
  refine Trip_of Tryd.func24 rfl (by show 1 ≤ _; decide) (args := [.iface t rv]) fun c h0 hex => ?_
  refine run _ ?_
  refine ro_alloc zRd rfl hex fun rb hrb => ?_
  refine runO _ ?_
  refine run _ ?_
  refine ro_callT (reset_t G rb 0 RS.zero t rv (.slice none 0 0) (.inl ⟨rfl, rfl⟩)) ?_
  rintro v m rfl
  refine runO _ ?_
  refine run _ ?_
  refine J_ret ?_
  exact ends_retS [2] ⟨rb, rfl, rfl⟩
end Go.Proofs.YtogmacnlpclgkaaDoor

/-! WALKS 9: ZZHeader, impl.Header. -/
namespace Go.Proofs.YtogmacnlpclgkaaDoor
open Go Go.Eng
attribute [local irreducible] RO J Trip Quiet
variable {G : Mem} {S : Sent G} {dat : Nat → Nat} {N : Nat}

/-- readFrameHeader, with its memory as it is spelled here. -/
theorem rfhE_t (src : Source S dat N) (hd : ∀ i, dat i < 256) (hsk : SkipT src) (q0 : src.σ) (rb : Nat) (x : Int) (s : RS) (wm : Mem) (wl : Nat) (wc : Nat → Value) (hok : src.ok q0) (hrv : s.rv = .iface src.t src.rv) (hscr : ∀ i, s.scr i < 256) (hw : SlM 1 s.wd wl wc wm)
    (fb : Blk) (hfb : (2, fb) ∈ G) (hfn : 0 < fb.n) (hfv : fb.g 0 = .bool false) :
    Trip Tryd.prog G 28 #[.pointer (some ⟨rb, 0, none⟩)] ((rb, rdB x s) :: (src.mem q0 ++ wm)) (fun v m =>
      ∃ x' s' q' wm', src.ok q' ∧ (∀ i, s'.scr i < 256) ∧ m = (rb, rdB x' s') :: (src.mem q' ++ wm') ∧
        match hdrAt dat N (skipTo dat N N (src.pos q0)) with
        | .short => src.pos q' = N ∧ wm' = wm ∧ s' = { s with one := s.one || decide (skipTo dat N N (src.pos q0) ≠ src.pos q0), scr := s'.scr } ∧ ErrV S (if N - skipTo dat N N (src.pos q0) = 0 ∧ (s.one || decide (skipTo dat N N (src.pos q0) ≠ src.pos q0)) = true then .eof else .z) v
        | .bad sum pos => src.pos q' = pos ∧ wm' = wm ∧ s' = RS.setSum { s with one := s.one || decide (skipTo dat N N (src.pos q0) ≠ src.pos q0) } s'.scr sum ∧ ErrV S .z v
        | .ok sum known size win pos => src.pos q' = pos ∧ v = .nilIface ∧ SlM 1 s'.wd 0 (fun _ => undef) wm' ∧ s' = (RS.setSum { s with one := s.one || decide (skipTo dat N N (src.pos q0) ≠ src.pos q0) } s'.scr (some sum)).setHdr known size win s'.wd) := by
  refine (rfh_t src hd hsk q0 rb x s wm wl wc hok hrv hscr hw fb hfb hfn hfv).eqv ?_
  rintro v m ⟨x', scr', q', h1, h2, h3⟩
  simp only at h3
  split at h3
  · rename_i he
    obtain ⟨a1, a2, a3⟩ := h3
    exact ⟨_, a2, x', _, q', wm, h1, h2, rfl, by rw [he]; exact ⟨a1, rfl, rfl, a3⟩⟩
  · rename_i sum pos he
    obtain ⟨a1, a2, a3⟩ := h3
    refine ⟨_, a2, x', _, q', wm, h1, ?_, rfl, ?_⟩
    · intro i; cases sum <;> exact h2 i
    · rw [he]; exact ⟨a1, rfl, by cases sum <;> rfl, a3⟩
  · rename_i sum known size win pos he
    obtain ⟨a1, a2, wd', wm', a3, a4⟩ := h3
    exact ⟨_, a4, x', _, q', wm', h1, h2, rfl, by rw [he]; exact ⟨a1, a2, a3, rfl⟩⟩

/-- A slice of bytes that is handed in. -/
structure DataV (M : Mem) (oa : Option Addr) (N cp : Nat) (dat : Nat → Nat) : Prop where
  le : N ≤ cp
  is : (oa = none ∧ N = 0 ∧ cp = 0) ∨ ∃ b o B, oa = some ⟨b, o, none⟩ ∧ (b, B) ∈ M ∧ (0 < N → o + N ≤ B.n) ∧ ∀ i, i < N → B.g (o + i) = .int .u8 (dat i)

/-- A slice with its block is written so. -/
theorem slmForm {s len : Nat} {v : Value} {cl : Nat → Value} {sm : Mem} (h : SlM s v len cl sm) : ∃ oa cp, v = .slice oa len cp := by
  rcases h with ⟨rfl, rfl, _⟩ | ⟨b, o, cp, B, rfl, _⟩
  · exact ⟨_, _, rfl⟩
  · exact ⟨_, _, rfl⟩
theorem slmCongr {s len : Nat} {v : Value} {cl cl' : Nat → Value} {sm : Mem} (h : SlM s v len cl sm) (hc : ∀ i, i < len * s → cl i = cl' i) : SlM s v len cl' sm := by
  rcases h with h | ⟨b, o, cp, B, h1, h2, h3, h4, h5, h6⟩
  · exact .inl h
  · exact .inr ⟨b, o, cp, B, h1, h2, h3, h4, h5, fun i hi => (h6 i hi).trans (hc i hi)⟩

def headV (dat : Nat → Nat) (N : Nat) : Option (Bool × Bool × Nat × Nat × Nat) := match hdrAt dat N (skipTo dat N N 0) with
  | .ok sum known size win pos => some (sum, known, min size 9223372036854775807, win, pos)
  | _ => none

end Go.Proofs.YtogmacnlpclgkaaDoor

/-! WALKS 14: setBufferSize; the window. -/
namespace Go.Proofs.YtogmacnlpclgkaaDoor
open Go Go.Eng
attribute [local irreducible] RO J Trip Quiet
variable {G : Mem}

def u8f (S : Nat → Nat) : Nat → Value := fun i => .int .u8 ((S i : Nat) : Int)
/-- A buffer of bytes that holds S to its capacity and beyond (zeros). -/
abbrev BufN (v : Value) (len : Nat) (S : Nat → Nat) (sm : Mem) : Prop := BufM v len (u8f S) sm
theorem blit_zeros {S : Nat → Nat} {len k : Nat} (h : ∀ i, len ≤ i → S i = 0) : blit (u8f S) len k (fun _ => .int .u8 0) = u8f S := by
  funext i
  by_cases hi : len ≤ i ∧ i < len + k
  · rw [blit_in _ _ _ _ _ hi.1 hi.2]; unfold u8f; rw [h i hi.1]; rfl
  · rw [blit_out _ _ _ _ _ (by omega)]
theorem u8_inj {a : Nat} (h : Value.int .u8 ((a : Nat) : Int) = .int .u8 0) : a = 0 := by
  have := Value.int.inj h; omega

set_option maxRecDepth 4000 in
theorem setBuf_t (rb : Nat) (x : Int) (s : RS) (len size : Nat) (S : Nat → Nat) (bm : Mem) (hb : BufN s.buf len S bm) (hs : size ≤ 2 ^ 30) :
    Trip Tryd.prog G 53 #[.pointer (some ⟨rb, 0, none⟩), .int .i64 size] ((rb, rdB x s) :: bm) (fun _ m =>
      ∃ buf' bm', BufN buf' size S bm' ∧ m = (rb, rdB x (s.wBuf buf')) :: bm') := by
  refine Trip_of Tryd.func53 rfl (by show 2 ≤ _; decide) (args := [.pointer (some ⟨rb, 0, none⟩), .int .i64 size]) fun c h0 hex => ?_
  rw [← s.wBuf_self]
  generalize s.buf = bv at hb ⊢
  rcases hb with ⟨rfl, rfl, rfl, hS⟩ | ⟨b, cap, B, rfl, rfl, hf, ho, hlc, hcl, hS⟩
  · have hS0 : ∀ i, 0 ≤ i → S i = 0 := fun i _ => u8_inj (hS i)
    refine go _ ?_
    refine J_condP rfl (fun hlt => ?_) (fun hge => ?_)
    · refine go _ ?_
      refine ro_sliceNil rfl rfl rfl rfl rfl rfl ?_
      refine go _ ?_
      refine ro_appendBZ (len := 0) (k := size - 0) (S := u8f S) (sm := []) (fm := [(rb, rdB x (s.wBuf (.slice none 0 0)))]) rfl rfl rfl rfl z5 (by decide) rfl rfl (.inl ⟨rfl, rfl, rfl, hS⟩) (.refl _) rfl (by omega) hex rfl ?_
      intro v' sm' hv
      rw [blit_zeros hS0, Nat.zero_add, Nat.sub_zero] at hv
      rcases hv with ⟨rfl, h1, rfl, _⟩ | ⟨b, cap, B, rfl, rfl, g1, g2, g3, g4, g5⟩
      · omega
      · refine go _ ?_
        exact ends_normalS [] (post := (rb, rdB x (s.wBuf (.slice (some ⟨b, 0, none⟩) size cap))) :: [(b, B)]) (junk := []) ⟨_, _, .inr ⟨b, cap, B, rfl, rfl, g1, g2, g3, g4, g5⟩, rfl⟩
    · obtain rfl : size = 0 := by omega
      refine go _ ?_
      refine ro_sliceNil rfl rfl rfl rfl rfl rfl ?_
      refine go _ ?_
      exact ends_normalS [] (post := (rb, rdB x (s.wBuf (.slice none 0 0))) :: []) (junk := []) ⟨_, [], .inl ⟨rfl, rfl, rfl, hS⟩, rfl⟩
  · refine go _ ?_
    refine J_condP rfl (fun hlt => ?_) (fun hge => ?_)
    · have hS0 : ∀ i, cap ≤ i → S i = 0 := fun i h => u8_inj (hS i h)
      refine go _ ?_
      refine ro_appendBZ (len := cap) (k := size - cap) (S := u8f S) (sm := [(b, B)]) (fm := [(rb, rdB x (s.wBuf (.slice (some ⟨b, 0, none⟩) len cap)))]) rfl rfl rfl rfl z5 (by decide) rfl rfl (.inr ⟨b, cap, B, rfl, rfl, hf, ho, Nat.le_refl _, hcl, hS⟩) (List.Perm.swap _ _ _) rfl (by omega) hex rfl ?_
      intro v' sm' hv
      rw [blit_zeros hS0, show cap + (size - cap) = size by omega] at hv
      rcases hv with ⟨rfl, h1, rfl, _⟩ | ⟨b, cap, B, rfl, rfl, g1, g2, g3, g4, g5⟩
      · omega
      · refine go _ ?_
        exact ends_normalS [] (post := (rb, rdB x (s.wBuf (.slice (some ⟨b, 0, none⟩) size cap))) :: [(b, B)]) (junk := []) ⟨_, _, .inr ⟨b, cap, B, rfl, rfl, g1, g2, g3, g4, g5⟩, rfl⟩
    · refine go _ ?_
      exact ends_normalS [] (post := (rb, rdB x (s.wBuf (.slice (some ⟨b, 0, none⟩) size cap))) :: [(b, B)]) (junk := []) ⟨_, _, .inr ⟨b, cap, B, rfl, rfl, hf, ho, by omega, hcl, hS⟩, rfl⟩
end Go.Proofs.YtogmacnlpclgkaaDoor
