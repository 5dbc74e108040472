/-
  TEXTS MERGED: W15, W16, W17.
-/
import Derived.Test.YtogmacnlpclgkaaDoorK15
/-! WALKS 15: the window. -/
namespace Go.Proofs.YtogmacnlpclgkaaDoor
open Go Go.Eng
attribute [local irreducible] RO J Trip Quiet
set_option maxRecDepth 4000
variable {G : Mem}

def blitN (g : Nat → Nat) (a k : Nat) (src : Nat → Nat) : Nat → Nat := fun i => if a ≤ i ∧ i < a + k then src (i - a) else g i
def catF (L : Nat → Nat) (wl : Nat) (S : Nat → Nat) : Nat → Nat := fun i => if i < wl then L i else S (i - wl)
/-- A window of the size wsz that holds the wl bytes L, the first one first; wo: where the first one lies. -/
def WinM (v : Value) (wsz wo : Nat) (L : Nat → Nat) (wl : Nat) (wm : Mem) : Prop :=
  ∃ ph : Nat → Nat, SlM 1 v wl (u8f ph) wm ∧ wl ≤ wsz ∧ wo ≤ wl ∧ (wl < wsz → wo = 0) ∧ ∀ i, i < wl → L i = ph (if wo + i < wl then wo + i else wo + i - wl)
theorem WinM.congr {v : Value} {wsz wo wl : Nat} {L L' : Nat → Nat} {wm : Mem} (h : WinM v wsz wo L wl wm) (e : ∀ i, i < wl → L i = L' i) : WinM v wsz wo L' wl wm := by
  obtain ⟨ph, h1, h2, h3, h4, h5⟩ := h
  exact ⟨ph, h1, h2, h3, h4, fun i hi => (e i hi).symm.trans (h5 i hi)⟩
/-- .. behind another text. -/
def winL (wsz wl : Nat) (L : Nat → Nat) (bl : Nat) (S : Nat → Nat) : Nat → Nat := fun i => catF L wl S (wl + bl - min wsz (wl + bl) + i)

theorem u8f_src {B : Blk} {bl : Nat} {S : Nat → Nat} (h : ∀ i, i < bl → B.g i = u8f S i) (o k : Nat) (hk : o + k ≤ bl) : ∀ j, j < k → B.g (0 + o + j) = .int .u8 ((S (o + j) : Nat) : Int) := fun j hj => by
  rw [Nat.zero_add, h _ (by omega)]; rfl

set_option maxHeartbeats 1000000 in
theorem save_t (rb : Nat) (x : Int) (s : RS) (wl bl : Nat) (L S : Nat → Nat) (wm bm : Mem) (vb : Value) (hw : WinM s.wd s.wsz s.wo L wl wm) (hb : BufN vb bl S bm) (hs : s.wsz ≤ 2 ^ 30) (hbl : bl ≤ 2 ^ 30) :
    Trip Tryd.prog G 56 #[.pointer (some ⟨rb, 14, none⟩), vb] ((rb, rdB x s) :: (wm ++ bm)) (fun _ m =>
      ∃ wd' wo' wm', WinM wd' s.wsz wo' (winL s.wsz wl L bl S) (min s.wsz (wl + bl)) wm' ∧ m = (rb, rdB x (s.wWin s.wsz wd' wo')) :: (wm' ++ bm)) := by
  obtain ⟨oa, bcp, rfl⟩ : ∃ oa cp, vb = .slice oa bl cp := by
    rcases hb with ⟨rfl, rfl, _⟩ | ⟨b, cap, B, rfl, _⟩
    · exact ⟨_, _, rfl⟩
    · exact ⟨_, _, rfl⟩
  refine Trip_of Tryd.func56 rfl (by show 2 ≤ _; decide) (args := [.pointer (some ⟨rb, 14, none⟩), .slice oa bl bcp]) fun c h0 hex => ?_
  rw [← s.wWin_self]
  generalize s.wsz = z at hw hs ⊢
  generalize s.wd = wv at hw ⊢
  generalize s.wo = wo at hw ⊢
  obtain ⟨ph, hsl, h1, h2, h3, h4⟩ := hw
  show J Tryd.prog G c _ h0 _ (Eng.Ends Tryd.prog G c _ h0 fun _ m => ∃ wd' wo' wm', WinM wd' z wo' (winL z wl L bl S) (min z (wl + bl)) wm' ∧ m = (rb, rdB x (s.wWin z wd' wo')) :: (wm' ++ bm)) _ _
  obtain ⟨wa, wcp, rfl⟩ := slmForm hsl
  refine go _ ?_
  refine J_condP rfl (fun (hz : ((z : Nat) : Int) = 0) => ?_) (fun (hz : ¬ ((z : Nat) : Int) = 0) => ?_)
  · obtain rfl : z = 0 := by omega
    refine go _ ?_
    refine J_ret ?_
    exact ends_retS [] ⟨_, wo, _, ⟨ph, by rw [show min 0 (wl + bl) = wl by omega]; exact hsl, by omega, by omega, by omega, fun i hi => by omega⟩, rfl⟩
  refine go _ ?_
  refine J_condP rfl (fun hz0 => ?_) (fun hz0 => ?_)
  · obtain rfl : bl = 0 := by omega
    have e : min z (wl + 0) = wl := by omega
    refine go _ ?_
    refine J_ret ?_
    refine ends_retS [] ⟨_, wo, _, ⟨ph, by rw [e]; exact hsl, by omega, by omega, fun h => h3 (by omega), fun i hi => ?_⟩, rfl⟩
    rw [e] at hi ⊢
    rw [← h4 i hi]
    unfold winL catF
    rw [e, Nat.add_zero, Nat.sub_self, Nat.zero_add, if_pos hi]
  rcases hb with ⟨hbn, h0b, _⟩ | ⟨bb, bcap, BB, hbv, rfl, hbf, hbo, hblc, hbc, _⟩
  · omega
  obtain ⟨rfl, rfl⟩ : oa = some ⟨bb, 0, none⟩ ∧ bcp = bcap := by
    have := Value.slice.inj hbv
    exact ⟨this.1, this.2.2⟩
  clear hbv
  have hbc' : ∀ i, i < bl → BB.g i = u8f S i := fun i hi => hbc i (by omega)
  refine go _ ?_
  refine J_condP rfl (fun (hge : ((bl : Nat) : Int) ≥ ((z : Nat) : Int)) => ?_) (fun (hlt : ¬ ((bl : Nat) : Int) ≥ ((z : Nat) : Int)) => ?_)
  · have hge' : z ≤ bl := by omega
    have e : min z (wl + bl) = z := by omega
    have hfin : ∀ v' sm', SlM 1 v' (0 + (bl - (bl - z))) (fun i => if i < 0 * 1 then undef else BB.g (0 + (bl - z) + (i - 0 * 1))) sm' → WinM v' z 0 (winL z wl L bl S) (min z (wl + bl)) sm' := fun v' sm' h => by
      refine ⟨fun i => S (bl - z + i), ?_, by omega, by omega, fun _ => rfl, fun i hi => ?_⟩
      · rw [e, show z = 0 + (bl - (bl - z)) by omega]
        refine slmCongr h fun i hi => ?_
        rw [if_neg (by omega), Nat.zero_mul, Nat.sub_zero, Nat.zero_add, hbc' _ (by omega)]
        unfold u8f
        rw [show 0 + (bl - (bl - z)) = z by omega]
      · rw [e] at hi ⊢
        unfold winL catF
        rw [e, if_neg (by omega), if_pos (by omega)]
        congr 1; omega
    rcases hsl with ⟨hvn, h0w, rfl⟩ | ⟨wb, wof, wcap, WB, hwv, rfl, hwf, hwo, hwlc, hwc⟩
    · obtain ⟨rfl, rfl⟩ : wa = none ∧ wcp = 0 := by
        have := Value.slice.inj hvn
        exact ⟨this.1, this.2.2⟩
      subst h0w
      refine go _ ?_
      refine ro_sliceNil rfl rfl rfl rfl rfl rfl ?_
      refine go _ ?_
      refine ro_appendMF (s := 0) (len := 0) (k := bl - (bl - z)) (cl := fun _ => undef) (src := fun j => BB.g (0 + (bl - z) + j)) (sm := []) (fm := (rb, rdB x (s.wWin z (.slice none 0 0) wo)) :: [(bb, BB)]) rfl rfl rfl rfl z5 (by decide) rfl rfl (.inl ⟨rfl, rfl, rfl⟩) (.refl _) (.inl ⟨bb, 0 + (bl - z), _, BB, rfl, by simp, by omega, rfl⟩) (fun j hj => by rw [Nat.zero_add, hbc' _ (by omega)]; rfl) (by omega) hex rfl ?_
      intro v' sm' hv h1v
      refine go _ ?_
      refine J_ret ?_
      exact ends_retS [] (junk := []) ⟨_, 0, _, hfin _ _ hv, rfl⟩ rfl (.cons (blk_tab rfl rfl rfl rfl) (.of_perm (by simpa using List.perm_append_comm (l₁ := [(bb, BB)]) (l₂ := sm'))))
    · obtain ⟨rfl, rfl⟩ : wa = some ⟨wb, wof, none⟩ ∧ wcp = wcap := by
        have := Value.slice.inj hwv
        exact ⟨this.1, this.2.2⟩
      refine go _ ?_
      refine ro_appendMF (s := 0) (len := 0) (k := bl - (bl - z)) (cl := fun _ => undef) (src := fun j => BB.g (0 + (bl - z) + j)) (sm := [(wb, WB)]) (fm := (rb, rdB x (s.wWin z (.slice (some ⟨wb, wof, none⟩) wl wcp) wo)) :: [(bb, BB)]) rfl rfl rfl rfl z5 (by decide) rfl rfl (.inr ⟨wb, wof, wcp, WB, rfl, rfl, hwf, hwo, Nat.zero_le _, fun i hi => by omega⟩) (List.Perm.swap _ _ _) (.inl ⟨bb, 0 + (bl - z), _, BB, rfl, by simp, by omega, rfl⟩) (fun j hj => by rw [Nat.zero_add, hbc' _ (by omega)]; rfl) (by omega) hex rfl ?_
      intro v' sm' hv h1v
      refine go _ ?_
      refine J_ret ?_
      exact ends_retS [] (junk := []) ⟨_, 0, _, hfin _ _ hv, rfl⟩ rfl (.cons (blk_tab rfl rfl rfl rfl) (.of_perm (by simpa using List.perm_append_comm (l₁ := [(bb, BB)]) (l₂ := sm'))))
  have hlt' : bl < z := by omega
  rcases hsl with ⟨hvn, h0w, rfl⟩ | ⟨wb, wof, wcap, WB, hwv, rfl, hwf, hwo, hwlc, hwc⟩
  · obtain ⟨rfl, rfl⟩ : wa = none ∧ wcp = 0 := by
      have := Value.slice.inj hvn
      exact ⟨this.1, this.2.2⟩
    subst h0w
    have e : min z (0 + bl) = bl := by omega
    obtain rfl : wo = 0 := by omega
    refine go _ ?_
    refine J_condP rfl (fun h => absurd h (by omega)) (fun _ => ?_)
    refine go _ ?_
    refine J_condP rfl (fun _ => ?_) (fun h => absurd h (by omega))
    refine go _ ?_
    refine ro_appendMF (s := 0) (len := 0) (k := bl) (cl := fun _ => undef) (src := fun j => BB.g (0 + j)) (sm := []) (fm := (rb, rdB x (s.wWin z (.slice none 0 0) 0)) :: [(bb, BB)]) rfl rfl rfl rfl z5 (by decide) rfl rfl (.inl ⟨rfl, rfl, rfl⟩) (.refl _) (.inl ⟨bb, 0, bcp, BB, rfl, by simp, by omega, rfl⟩) (fun j hj => by rw [Nat.zero_add, hbc' _ (by omega)]; rfl) (by omega) hex rfl ?_
    intro v' sm' hv h1v
    refine go _ ?_
    refine ends_normalS [] (junk := []) ⟨v', 0, sm', ⟨S, ?_, by omega, by omega, fun _ => rfl, fun i hi => ?_⟩, rfl⟩ rfl (.cons (blk_tab rfl rfl rfl rfl) (.of_perm (by simpa using List.perm_append_comm (l₁ := [(bb, BB)]) (l₂ := sm'))))
    · rw [e]
      have hv : SlM 1 v' bl (fun i => if i < 0 then undef else BB.g (0 + (i - 0 * 1))) sm' := by simpa only [Nat.zero_add] using hv
      refine slmCongr hv fun i hi => ?_
      rw [if_neg (by omega), Nat.zero_mul, Nat.sub_zero, Nat.zero_add, hbc' _ (by omega)]
    · rw [e] at hi ⊢
      unfold winL catF
      rw [e, if_neg (by omega), if_pos (by omega)]
      congr 1; omega
  · obtain ⟨rfl, rfl⟩ : wa = some ⟨wb, wof, none⟩ ∧ wcp = wcap := by
      have := Value.slice.inj hwv
      exact ⟨this.1, this.2.2⟩
    have hwc' : ∀ i, i < wl → WB.g (wof + i) = u8f ph i := fun i hi => hwc i (by omega)
    refine go _ ?_
    refine J_condP rfl (fun hf0 => ?_) (fun hf0 => ?_)
    · have hwz : wl = z := by omega
      have hn1 : min bl (wl - wo) ≤ bl := Nat.min_le_left _ _
      have hn2 : min bl (wl - wo) ≤ wl - wo := Nat.min_le_right _ _
      have hn3 : min bl (wl - wo) = bl ∨ min bl (wl - wo) = wl - wo := by omega
      have hbl1 : ∀ n, n ≤ wl - wo → blit WB.g (sOff wof wo (0 + 1) wcp) (n * (0 + 1)) (fun j => BB.g (0 + j)) = blit WB.g (wof + wo) n (fun j => BB.g j) := fun n hn => by
        by_cases h0 : n = 0
        · subst h0; rw [Nat.zero_mul, blit_zero, blit_zero]
        · have : sOff wof wo (0 + 1) wcp = wof + wo := by unfold sOff; rw [if_neg (by omega)]; omega
          rw [this, show n * (0 + 1) = n by omega]; simp only [Nat.zero_add]
      refine go _ ?_
      refine ro_slN wo wl rfl rfl rfl rfl rfl rfl rfl h2 hwlc rfl ?_
      refine go _ ?_
      refine ro_copy (s := 0) (k := bl) (src := fun j => BB.g (0 + j)) rfl rfl rfl rfl (.inl ⟨bb, 0, bcp, BB, rfl, by simp, by omega, rfl⟩) (fun j hj => by rw [Nat.zero_add, hbc' _ (by omega)]; rfl) (.there .here) hwf (by unfold sOff; split <;> omega) hex rfl ?_
      rw [hbl1 _ hn2]
      generalize min bl (wl - wo) = n at *
      have hfin : ∀ (wo' : Nat) (ph' : Nat → Nat) (B' : Blk), B'.fr = (0, 0) → B'.n = WB.n → (∀ i, i < wl → B'.g (wof + i) = u8f ph' i) → wo' ≤ wl → (∀ i, i < wl → winL z wl L bl S i = ph' (if wo' + i < wl then wo' + i else wo' + i - wl)) →
          WinM (.slice (some ⟨wb, wof, none⟩) wl wcp) z wo' (winL z wl L bl S) (min z (wl + bl)) [(wb, B')] := fun wo' ph' B' g1 g2 g3 g4 g5 => by
        have e : min z (wl + bl) = wl := by omega
        rw [e]
        exact ⟨ph', .inr ⟨wb, wof, wcp, B', rfl, rfl, g1, by omega, hwlc, fun i hi => g3 i (by omega)⟩, h1, g4, fun h => by omega, g5⟩
      have hL : ∀ i, i < wl → winL z wl L bl S i = if bl + i < wl then L (bl + i) else S (bl + i - wl) := fun i hi => by
        unfold winL catF
        rw [show wl + bl - min z (wl + bl) + i = bl + i by omega]
      refine go _ ?_
      refine J_condP rfl (fun heq => ?_) (fun hne => ?_)
      · have hnb : n = bl := by omega
        subst hnb
        refine go _ ?_
        refine ends_normalS [] (junk := []) ⟨_, wo + n, _, hfin (wo + n) (fun i => if wo ≤ i ∧ i < wo + n then S (i - wo) else ph i) ⟨WB.n, blit WB.g (wof + wo) n fun j => BB.g j, WB.T, WB.fr⟩ hwf rfl (fun i hi => ?_) (by omega) (fun i hi => ?_), rfl⟩
        · show blit WB.g (wof + wo) n (fun j => BB.g j) (wof + i) = u8f (fun i => if wo ≤ i ∧ i < wo + n then S (i - wo) else ph i) i
          unfold u8f
          by_cases hin : wo ≤ i ∧ i < wo + n
          · rw [blit_in _ _ _ _ _ (by omega) (by omega), hbc' _ (by omega)]
            simp only [if_pos hin]
            unfold u8f; congr 3; omega
          · rw [blit_out _ _ _ _ _ (by omega), hwc' i hi]
            simp only [if_neg hin]; rfl
        · rw [hL i hi]
          generalize hj : (if wo + n + i < wl then wo + n + i else wo + n + i - wl) = j
          have hj' : (wo + n + i < wl ∧ j = wo + n + i) ∨ (¬ wo + n + i < wl ∧ j = wo + n + i - wl) := by split at hj <;> omega
          show _ = if wo ≤ j ∧ j < wo + n then S (j - wo) else ph j
          by_cases hc1 : n + i < wl
          · rw [if_pos hc1, h4 _ hc1, if_neg (c := wo ≤ j ∧ j < wo + n) (by omega)]; congr 1; split <;> omega
          · rw [if_neg hc1, if_pos (by omega)]; congr 1; omega
      · have hnw : n = wl - wo := by omega
        have hnb : n < bl := by omega
        refine go _ ?_
        refine ro_copy (s := 0) (k := bl - n) (src := fun j => BB.g (0 + n + j)) rfl rfl rfl rfl (.inl ⟨bb, 0 + n, bcp - n, BB, rfl, by simp, by omega, rfl⟩) (fun j hj => by rw [Nat.zero_add, hbc' _ (by omega)]; rfl) (.there .here) hwf (by show wof + _ ≤ WB.n; omega) hex rfl ?_
        have hmb : min (bl - n) wl = bl - n := by omega
        rw [hmb]
        refine go _ ?_
        refine ends_normalS [] (junk := []) ⟨_, bl - n, _, hfin (bl - n) (fun i => if i < bl - n then S (n + i) else if wo ≤ i then S (i - wo) else ph i) ⟨WB.n, blit (blit WB.g (wof + wo) n fun j => BB.g j) wof ((bl - n) * (0 + 1)) (fun j => BB.g (0 + n + j)), WB.T, WB.fr⟩ hwf rfl (fun i hi => ?_) (by omega) (fun i hi => ?_), rfl⟩
        · show blit (blit WB.g (wof + wo) n fun j => BB.g j) wof ((bl - n) * (0 + 1)) (fun j => BB.g (0 + n + j)) (wof + i) = .int .u8 (((if i < bl - n then S (n + i) else if wo ≤ i then S (i - wo) else ph i : Nat)) : Int)
          rw [show (bl - n) * (0 + 1) = bl - n by omega]
          by_cases hin : i < bl - n
          · rw [blit_in _ _ _ _ _ (by omega) (by omega), if_pos hin, hbc' _ (by omega)]
            unfold u8f; congr 3; omega
          · rw [blit_out _ _ _ _ _ (by omega), if_neg hin]
            by_cases hin2 : wo ≤ i
            · rw [blit_in _ _ _ _ _ (by omega) (by omega), if_pos hin2, hbc' _ (by omega)]
              unfold u8f; congr 3; omega
            · rw [blit_out _ _ _ _ _ (by omega), if_neg hin2, hwc' i hi]; rfl
        · rw [hL i hi]
          generalize hj : (if bl - n + i < wl then bl - n + i else bl - n + i - wl) = j
          have hj' : (bl - n + i < wl ∧ j = bl - n + i) ∨ (¬ bl - n + i < wl ∧ j = bl - n + i - wl) := by split at hj <;> omega
          show _ = if j < bl - n then S (n + j) else if wo ≤ j then S (j - wo) else ph j
          by_cases hc1 : bl + i < wl
          · rw [if_pos hc1, h4 _ hc1, if_neg (c := j < bl - n) (by omega), if_neg (c := wo ≤ j) (by omega)]; congr 1; split <;> omega
          · rw [if_neg hc1]
            by_cases hc2 : j < bl - n
            · rw [if_pos hc2]; congr 1; omega
            · rw [if_neg hc2, if_pos (by omega)]; congr 1; omega
    · have hfree : wl < z := by omega
      have hwo : wo = 0 := h3 hfree
      subst hwo
      have h4' : ∀ i, i < wl → L i = ph i := fun i hi => by rw [h4 i hi, if_pos (by omega), Nat.zero_add]
      refine go _ ?_
      refine J_condP rfl (fun hroom => ?_) (fun hno => ?_)
      · have e : min z (wl + bl) = wl + bl := by omega
        refine go _ ?_
        refine ro_appendMF (s := 0) (len := wl) (k := bl) (cl := u8f ph) (src := fun j => BB.g (0 + j)) (sm := [(wb, WB)]) (fm := (rb, rdB x (s.wWin z (.slice (some ⟨wb, wof, none⟩) wl wcp) 0)) :: [(bb, BB)]) rfl rfl rfl rfl z5 (by decide) rfl rfl (.inr ⟨wb, wof, wcp, WB, rfl, rfl, hwf, hwo, hwlc, hwc⟩) (List.Perm.swap _ _ _) (.inl ⟨bb, 0, bcp, BB, rfl, by simp, by omega, rfl⟩) (fun j hj => by rw [Nat.zero_add, hbc' _ (by omega)]; rfl) (by omega) hex rfl ?_
        intro v' sm' hv h1v
        refine go _ ?_
        refine ends_normalS [] (junk := []) ⟨v', 0, sm', ⟨catF ph wl S, ?_, by omega, by omega, fun _ => rfl, fun i hi => ?_⟩, rfl⟩ rfl (.cons (blk_tab rfl rfl rfl rfl) (.of_perm (by simpa using List.perm_append_comm (l₁ := [(bb, BB)]) (l₂ := sm'))))
        · rw [e]
          refine slmCongr hv fun i hi => ?_
          rw [Nat.mul_one]
          unfold u8f catF
          by_cases hc : i < wl
          · rw [if_pos hc, if_pos hc]
          · rw [if_neg hc, if_neg hc, Nat.zero_add, hbc' _ (by omega)]; rfl
        · rw [e] at hi ⊢
          unfold winL catF
          rw [e, Nat.sub_self, Nat.zero_add, if_pos hi]
          by_cases hc : i < wl
          · rw [if_pos hc, if_pos hc, h4' i hc]
          · rw [if_neg hc, if_neg hc]
      · have hno' : z - wl < bl := by omega
        refine go _ ?_
        refine ro_appendMF (s := 0) (len := wl) (k := z - wl) (cl := u8f ph) (src := fun j => BB.g (0 + j)) (sm := [(wb, WB)]) (fm := (rb, rdB x (s.wWin z (.slice (some ⟨wb, wof, none⟩) wl wcp) 0)) :: [(bb, BB)]) rfl rfl rfl rfl z5 (by decide) rfl rfl (.inr ⟨wb, wof, wcp, WB, rfl, rfl, hwf, hwo, hwlc, hwc⟩) (List.Perm.swap _ _ _) (.inl ⟨bb, 0, bcp, BB, rfl, by simp, by omega, rfl⟩) (fun j hj => by rw [Nat.zero_add, hbc' _ (by omega)]; rfl) (by omega) hex rfl ?_
        intro v' sm' hv h1v
        rcases hv with ⟨_, h0, _⟩ | ⟨wb, wof, wcp, WB, rfl, rfl, hwf, hwo, hwlc, hwc⟩
        · omega
        rw [show wl + (z - wl) = z by omega]
        refine go _ ?_
        refine ro_copy (s := 0) (k := bl - (z - wl)) (src := fun j => BB.g (0 + (z - wl) + j)) rfl rfl rfl rfl (.inl ⟨bb, 0 + (z - wl), bcp - (z - wl), BB, rfl, by simp, by omega, rfl⟩) (fun j hj => by rw [Nat.zero_add, hbc' _ (by omega)]; rfl) (.there (.there .here)) hwf (by show wof + _ ≤ WB.n; omega) hex rfl ?_
        have hmb : min (bl - (z - wl)) z = bl - (z - wl) := by omega
        rw [hmb]
        refine go _ ?_
        have e : min z (wl + bl) = z := by omega
        refine ends_normalS [] (junk := []) ⟨.slice (some ⟨wb, wof, none⟩) z wcp, bl - (z - wl), [(wb, ⟨WB.n, blit WB.g wof ((bl - (z - wl)) * (0 + 1)) (fun j => BB.g (0 + (z - wl) + j)), WB.T, WB.fr⟩)], ⟨fun i => if i < bl - (z - wl) then S (z - wl + i) else catF ph wl S i, .inr ⟨wb, wof, wcp, ⟨WB.n, blit WB.g wof ((bl - (z - wl)) * (0 + 1)) (fun j => BB.g (0 + (z - wl) + j)), WB.T, WB.fr⟩, by rw [e], rfl, hwf, hwo, by omega, fun i hi => ?_⟩, by omega, by omega, fun h => by omega, fun i hi => ?_⟩, rfl⟩ rfl (.cons (blk_tab rfl rfl rfl rfl) (.of_perm (List.Perm.swap _ _ _)))
        · show blit WB.g wof ((bl - (z - wl)) * (0 + 1)) (fun j => BB.g (0 + (z - wl) + j)) (wof + i) = .int .u8 (((if i < bl - (z - wl) then S (z - wl + i) else catF ph wl S i : Nat)) : Int)
          rw [show (bl - (z - wl)) * (0 + 1) = bl - (z - wl) by omega]
          by_cases hin : i < bl - (z - wl)
          · rw [blit_in _ _ _ _ _ (by omega) (by omega), if_pos hin, hbc' _ (by omega)]
            unfold u8f; congr 3; omega
          · rw [blit_out _ _ _ _ _ (by omega), if_neg hin]
            rw [hwc i (by omega), Nat.mul_one]
            unfold catF
            dsimp only
            by_cases hc : i < wl
            · rw [if_pos hc, if_pos hc]; rfl
            · rw [if_neg hc, if_neg hc, Nat.zero_add, hbc' _ (by omega)]; rfl
        · rw [e] at hi ⊢
          generalize hj : (if bl - (z - wl) + i < z then bl - (z - wl) + i else bl - (z - wl) + i - z) = j
          have hj' : (bl - (z - wl) + i < z ∧ j = bl - (z - wl) + i) ∨ (¬ bl - (z - wl) + i < z ∧ j = bl - (z - wl) + i - z) := by split at hj <;> omega
          show _ = if j < bl - (z - wl) then S (z - wl + j) else catF ph wl S j
          unfold winL catF
          rw [e]
          by_cases hc1 : wl + bl - z + i < wl
          · rw [if_pos hc1, h4' _ hc1, if_neg (c := j < bl - (z - wl)) (by omega), if_pos (by omega)]; congr 1; omega
          · rw [if_neg hc1]
            by_cases hc2 : j < bl - (z - wl)
            · rw [if_pos hc2]; congr 1; omega
            · rw [if_neg hc2, if_neg (by omega)]; congr 1; omega
end Go.Proofs.YtogmacnlpclgkaaDoor

/-! WALKS 16: XXH64. -/
namespace Go.Proofs.YtogmacnlpclgkaaDoor
open Go Go.Eng
attribute [local irreducible] RO J Trip Quiet
set_option maxRecDepth 4000
variable {G : Mem}

/-- 2 to the 64th. -/
@[irreducible] def q64 : Nat := 2 ^ 64
theorem q64_eq : q64 = 2 ^ 64 := by unfold q64; rfl
theorem q64_bits : (2 : Nat) ^ IntKind.u64.bits = q64 := q64_eq.symm
theorem q64_pos : 0 < q64 := by rw [q64_eq]; decide
theorem q64_lt (a : Nat) : a % q64 < q64 := Nat.mod_lt _ q64_pos
@[irreducible] def xp1 : Nat := 11400714785074694791
@[irreducible] def xp2 : Nat := 14029467366897019727
@[irreducible] def xp3 : Nat := 1609587929392839161
@[irreducible] def xp4 : Nat := 9650029242287828579
@[irreducible] def xp5 : Nat := 2870177450012600261
theorem xp1_eq : (11400714785074694791 : Int) = ((xp1 : Nat) : Int) := by unfold xp1; decide
theorem xp2_eq : (14029467366897019727 : Int) = ((xp2 : Nat) : Int) := by unfold xp2; decide
theorem xp3_eq : (1609587929392839161 : Int) = ((xp3 : Nat) : Int) := by unfold xp3; decide
theorem xp4_eq : (9650029242287828579 : Int) = ((xp4 : Nat) : Int) := by unfold xp4; decide
theorem xp5_eq : (2870177450012600261 : Int) = ((xp5 : Nat) : Int) := by unfold xp5; decide
def rotl (x k : Nat) : Nat := (x * 2 ^ k % q64) ||| (x / 2 ^ (64 - k))
def xrnd (v n : Nat) : Nat := rotl ((v + n * xp2 % q64) % q64) 31 * xp1 % q64
def xmrg (h v : Nat) : Nat := ((h ^^^ xrnd 0 v) * xp1 % q64 + xp4) % q64
theorem lt64 {a : Nat} (h : a < q64) : a < 2 ^ capB .u64 := by rw [q64_eq] at h; exact h
theorem rotl_lt {x k : Nat} (h : x < q64) : rotl x k < q64 := by
  have h1 := q64_lt (x * 2 ^ k)
  have h2 : x / 2 ^ (64 - k) < q64 := Nat.lt_of_le_of_lt (Nat.div_le_self _ _) h
  rw [q64_eq] at h1 h2 ⊢
  unfold rotl
  rw [q64_eq]
  exact Nat.or_lt_two_pow h1 h2
theorem xrnd_lt (v n : Nat) : xrnd v n < q64 := q64_lt _
theorem xmrg_lt (v n : Nat) : xmrg v n < q64 := q64_lt _

theorem rot_q {m : Mem} {x : Nat} {K : Int} (k : Nat) (hK : K = (k : Int)) (hx : x < q64) (hk : k < 64) : Quiet Tryd.prog G 32 #[.int .u64 x, .int .i64 K] m (.int .u64 (rotl x k)) := by
  subst hK
  refine Quiet_of Tryd.func32 rfl (by show 2 ≤ _; decide) (args := [.int .u64 x, .int .i64 k]) fun c h0 => ?_
  refine go _ ?_
  have e : k % 64 = k := Nat.mod_eq_of_lt hk
  refine ro_shlU (a := x) (b := k % 64) rfl rfl rfl rfl rfl rfl ?_
  refine go _ ?_
  refine ro_orZ rfl rfl rfl rfl (a := x * 2 ^ (k % 64) % 2 ^ IntKind.u64.bits) (b := x / 2 ^ (64 - k % 64)) ?_ ?_ rfl rfl ?_
  · exact Nat.mod_lt _ (Nat.two_pow_pos _)
  · exact lt64 (Nat.lt_of_le_of_lt (Nat.div_le_self _ _) hx)
  refine go _ ?_
  refine J_ret ?_
  refine ends_ret [4] rfl (post := []) (junk := []) (.refl _) ?_
  show Value.int .u64 _ = _
  unfold rotl
  rw [e, q64_bits]

theorem xrnd_q {m : Mem} {rb o : Nat} {V : Int} (v : Nat) {n : Nat} (hV : V = (v : Int)) : Quiet Tryd.prog G 61 #[.pointer (some ⟨rb, o, none⟩), .int .u64 V, .int .u64 n] m (.int .u64 (xrnd v n)) := by
  subst hV
  refine Quiet_of Tryd.func61 rfl (by show 3 ≤ _; decide) (args := [.pointer (some ⟨rb, o, none⟩), .int .u64 v, .int .u64 n]) fun c h0 => ?_
  refine go _ ?_
  refine ro_mulU rfl rfl rfl xp2_eq rfl rfl ?_
  rw [q64_bits]
  refine go _ ?_
  refine ro_addU rfl rfl rfl rfl rfl rfl ?_
  rw [q64_bits]
  refine go _ ?_
  refine ro_callQT (rot_q (K := 31) 31 rfl (q64_lt _) (by decide)) ?_
  refine go _ ?_
  refine ro_mulU rfl rfl rfl xp1_eq rfl rfl ?_
  rw [q64_bits]
  refine go _ ?_
  refine J_ret ?_
  exact ends_ret [6] rfl (post := []) (junk := []) (.refl _) rfl

theorem xmrg_q {m : Mem} {rb o : Nat} {h v : Nat} (hh : h < q64) : Quiet Tryd.prog G 62 #[.pointer (some ⟨rb, o, none⟩), .int .u64 h, .int .u64 v] m (.int .u64 (xmrg h v)) := by
  refine Quiet_of Tryd.func62 rfl (by show 3 ≤ _; decide) (args := [.pointer (some ⟨rb, o, none⟩), .int .u64 h, .int .u64 v]) fun c h0 => ?_
  refine go _ ?_
  refine ro_callQT (xrnd_q (V := 0) 0 rfl) ?_
  refine go _ ?_
  refine ro_xorZ rfl rfl rfl rfl (lt64 hh) (lt64 (xrnd_lt _ _)) rfl ?_
  refine go _ ?_
  refine ro_mulU rfl rfl rfl xp1_eq rfl rfl ?_
  rw [q64_bits]
  refine ro_addU rfl rfl rfl xp4_eq rfl rfl ?_
  rw [q64_bits]
  refine go _ ?_
  refine J_ret ?_
  exact ends_ret [6] rfl (post := []) (junk := []) (.refl _) rfl
end Go.Proofs.YtogmacnlpclgkaaDoor

/-! WALKS 17: XXH64, a buffer taken in. -/
namespace Go.Proofs.YtogmacnlpclgkaaDoor
open Go Go.Eng
attribute [local irreducible] RO J Trip Quiet
set_option maxRecDepth 4000
variable {G : Mem}

/-- Eight bytes of a view. -/
theorem le64_v {m : Mem} {oa : Option Addr} {n cp : Nat} {x : Nat → Nat} (hv : View (m ++ G) oa n cp x) (hb : ∀ i, x i < 256) (h : 8 ≤ n) : Quiet Tryd.prog G 44 #[.slice oa n cp] m (.int .u64 (le8 x)) := by
  obtain ⟨hle, hc⟩ := hv
  rcases hc with ⟨_, h0, _⟩ | ⟨b, o, B, rfl, hm, hf, hg⟩
  · omega
  · exact le64_q G m b o n cp B x ⟨hm, by have := hf (by omega); omega, fun i hi => hg i (by omega), hb⟩ h hle
theorem le32_v {m : Mem} {oa : Option Addr} {n cp : Nat} {x : Nat → Nat} (hv : View (m ++ G) oa n cp x) (hb : ∀ i, x i < 256) (h : 4 ≤ n) : Quiet Tryd.prog G 38 #[.slice oa n cp] m (.int .u32 (le4 x)) := by
  obtain ⟨hle, hc⟩ := hv
  rcases hc with ⟨_, h0, _⟩ | ⟨b, o, B, rfl, hm, hf, hg⟩
  · omega
  · exact le32_q G m b o n cp B x ⟨hm, by have := hf (by omega); omega, fun i hi => hg i (by omega), hb⟩ h
theorem le8_lt {x : Nat → Nat} (h : ∀ i, x i < 256) : le8 x < q64 := by
  have l0 := le4_lt x h
  have l1 := le4_lt (fun i => x (i + 4)) (fun i => h _)
  rw [q64_eq]; unfold le8; omega

theorem rd_xb (x : Int) (s : RS) : ∀ j, j < 32 → listG (rdL x s) (50 + j) = .int .u8 (s.xb j)
  | 0, _ => rfl | 1, _ => rfl | 2, _ => rfl | 3, _ => rfl | 4, _ => rfl | 5, _ => rfl | 6, _ => rfl | 7, _ => rfl
  | 8, _ => rfl | 9, _ => rfl | 10, _ => rfl | 11, _ => rfl | 12, _ => rfl | 13, _ => rfl | 14, _ => rfl | 15, _ => rfl
  | 16, _ => rfl | 17, _ => rfl | 18, _ => rfl | 19, _ => rfl | 20, _ => rfl | 21, _ => rfl | 22, _ => rfl | 23, _ => rfl
  | 24, _ => rfl | 25, _ => rfl | 26, _ => rfl | 27, _ => rfl | 28, _ => rfl | 29, _ => rfl | 30, _ => rfl | 31, _ => rfl
  | j + 32, h => absurd h (by omega)
theorem rd_xlo (x : Int) (s : RS) (g : Nat → Nat) : ∀ i, i < 50 → listG (rdL x s) i = listG (rdL x { s with xb := g }) i
  | 0, _ => rfl | 1, _ => rfl | 2, _ => rfl | 3, _ => rfl | 4, _ => rfl | 5, _ => rfl | 6, _ => rfl | 7, _ => rfl
  | 8, _ => rfl | 9, _ => rfl | 10, _ => rfl | 11, _ => rfl | 12, _ => rfl | 13, _ => rfl | 14, _ => rfl | 15, _ => rfl
  | 16, _ => rfl | 17, _ => rfl | 18, _ => rfl | 19, _ => rfl | 20, _ => rfl | 21, _ => rfl | 22, _ => rfl | 23, _ => rfl
  | 24, _ => rfl | 25, _ => rfl | 26, _ => rfl | 27, _ => rfl | 28, _ => rfl | 29, _ => rfl | 30, _ => rfl | 31, _ => rfl
  | 32, _ => rfl | 33, _ => rfl | 34, _ => rfl | 35, _ => rfl | 36, _ => rfl | 37, _ => rfl | 38, _ => rfl | 39, _ => rfl
  | 40, _ => rfl | 41, _ => rfl | 42, _ => rfl | 43, _ => rfl | 44, _ => rfl | 45, _ => rfl | 46, _ => rfl | 47, _ => rfl
  | 48, _ => rfl | 49, _ => rfl
  | j + 50, h => absurd h (by omega)
theorem rd_xhi (x : Int) (s : RS) (g : Nat → Nat) (j : Nat) : listG (rdL x s) (j + 82) = listG (rdL x { s with xb := g }) (j + 82) := rfl
theorem rd_xput (x : Int) (s : RS) (c k : Nat) (h : c + k ≤ 32) (src : Nat → Value) (S : Nat → Nat) (hs : ∀ j, j < k → src j = .int .u8 (S j)) :
    (⟨83, blit (listG (rdL x s)) (50 + c) k src, 90, (0, 0)⟩ : Blk).obj = (rdB x (s.wChk s.xl s.xv (blitN s.xb c k S) s.xc)).obj := by
  refine obj_congr fun i _ => ?_
  show _ = listG (rdL x { s with xb := blitN s.xb c k S }) i
  by_cases h1 : i < 50
  · rw [blit_out _ _ _ _ _ (by omega)]; exact rd_xlo x s _ i h1
  · by_cases h2 : i < 82
    · obtain ⟨j, rfl⟩ : ∃ j, i = 50 + j := ⟨i - 50, by omega⟩
      rw [rd_xb x { s with xb := blitN s.xb c k S } j (by omega)]
      by_cases h3 : c ≤ j ∧ j < c + k
      · rw [blit_in _ _ _ _ _ (by omega) (by omega), hs _ (by omega)]
        simp only [blitN, if_pos h3]; rw [show 50 + j - (50 + c) = j - c by omega]
      · rw [blit_out _ _ _ _ _ (by omega), rd_xb x s j (by omega)]
        simp only [blitN, if_neg h3]
    · obtain ⟨j, rfl⟩ : ∃ j, i = j + 82 := ⟨i - 82, by omega⟩
      rw [blit_out _ _ _ _ _ (by omega)]; exact rd_xhi x s _ j
theorem rd_xv (x : Int) (s : RS) (l : Nat) (v v' b : Nat → Nat) (n : Nat) (h : ∀ i, i < 4 → v i = v' i) : (rdB x (s.wChk l v b n)).obj = (rdB x (s.wChk l v' b n)).obj := by
  have h0 := h 0 (by omega); have h1 := h 1 (by omega); have h2 := h 2 (by omega); have h3 := h 3 (by omega)
  unfold rdB rdL
  dsimp only [RS.wChk]
  rw [h0, h1, h2, h3]
theorem xb_view (M : Mem) (rb : Nat) (x : Int) (s : RS) (hm : (rb, rdB x s) ∈ M) (o : Nat) (ho : o ≤ 32) : View M (some ⟨rb, 50 + o, none⟩) (32 - o) (32 - o) (fun i => s.xb (o + i)) :=
  ⟨Nat.le_refl _, .inr ⟨rb, 50 + o, _, rfl, hm, fun _ => by show _ ≤ 83; omega, fun i hi => by rw [Nat.add_assoc]; exact rd_xb x s (o + i) (by omega)⟩⟩

/-- The accumulators behind n stripes of a text. -/
def xini : Nat → Nat := fun i => [6983438078262162902, 14029467366897019727, 0, 7046029288634856825].getD i 0
def xacc (T : Nat → Nat) : Nat → Nat → Nat
  | 0, i => xini i
  | n + 1, i => xrnd (xacc T n i) (le8 fun j => T (32 * n + (8 * i + j)))
theorem xacc_congr {T T' : Nat → Nat} (n : Nat) (h : ∀ i, i < 32 * n → T i = T' i) (i : Nat) (hi : i < 4) : xacc T n i = xacc T' n i := by
  induction n with
  | zero => rfl
  | succ n ih =>
    unfold xacc
    rw [ih (fun i hi => h i (by omega))]
    congr 1
    unfold le8 le4
    simp only [h (32 * n + (8 * i + 0)) (by omega), h (32 * n + (8 * i + 1)) (by omega), h (32 * n + (8 * i + 2)) (by omega), h (32 * n + (8 * i + 3)) (by omega), h (32 * n + (8 * i + (0 + 4))) (by omega), h (32 * n + (8 * i + (1 + 4))) (by omega), h (32 * n + (8 * i + (2 + 4))) (by omega), h (32 * n + (8 * i + (3 + 4))) (by omega)]
/-- The state has taken in the N bytes T. -/
structure XhM (s : RS) (T : Nat → Nat) (N : Nat) : Prop where
  len : s.xl = N % q64
  acc : ∀ i, i < 4 → s.xv i = xacc T (N / 32) i
  cnt : s.xc = N % 32
  buf : ∀ i, i < N % 32 → s.xb i = T (32 * (N / 32) + i)
  byte : ∀ i, s.xb i < 256
theorem XhM.congr {s : RS} {T T' : Nat → Nat} {N : Nat} (h : XhM s T N) (e : ∀ i, i < N → T i = T' i) : XhM s T' N :=
  ⟨h.len, fun i hi => (h.acc i hi).trans (xacc_congr _ (fun j hj => e j (by omega)) i hi), h.cnt, fun i hi => (h.buf i hi).trans (e _ (by omega)), h.byte⟩
theorem xreset_x (s : RS) (T : Nat → Nat) : XhM s.xreset T 0 :=
  ⟨(Nat.zero_mod _).symm, fun _ _ => rfl, rfl, fun i hi => by omega, fun _ => by show 0 < 256; omega⟩
end Go.Proofs.YtogmacnlpclgkaaDoor
