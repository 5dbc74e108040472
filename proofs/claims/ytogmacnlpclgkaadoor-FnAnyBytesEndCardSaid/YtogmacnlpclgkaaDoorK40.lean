/-
  TEXTS MERGED: C34.
-/
import Derived.Test.YtogmacnlpclgkaaDoorK39
/-! COMPRESSED BLOCKS 34: FnAnyBytesEnd. -/
namespace Go.Proofs.YtogmacnlpclgkaaDoor
open Go Go.Eng Go.Pz
attribute [local irreducible] RO J Trip Quiet
set_option maxRecDepth 20000
variable {G : Mem} {dat : Nat → Nat} {N : Nat}

theorem asked_q {m : Mem} (z : Int) : Quiet Tryd.prog G 18 #[.int .i64 z] m (.int .i64 (askZ z : Nat)) := by
  refine Quiet_of Tryd.func18 rfl (by show 1 ≤ _; decide) (args := [.int .i64 z]) fun c h0 => ?_
  unfold askZ
  refine go _ ?_
  refine J_condP rfl (fun h => ?_) (fun h => ?_)
  · refine go _ ?_
    refine J_ret ?_
    exact ends_retS [2] (by rw [if_pos h]; rfl)
  · refine go _ ?_
    refine J_ret ?_
    refine ends_retS [2] ?_
    rw [if_neg h]
    show Value.int .i64 z = Value.int .i64 _
    congr 1
    have h : ¬ z < 0 := h
    omega

set_option maxHeartbeats 1000000 in
theorem fnAny_t (S : Sent G) (V : Vars G) (hd : ∀ i, dat i < 256) (oa : Option Addr) (cp : Nat) (hv : View G oa N cp dat) (ob : Option Addr) (n cq : Nat) (z : Nat → Int) (hz : ViewI G ob n cq z) :
    Trip Tryd.prog G 6 #[.slice oa N cp, .slice ob n cq] [] (fun v _ => v = .bool true) := by
  obtain ⟨fb, hfb, hfn, hfv⟩ := V.fz
  refine Trip_of Tryd.func6 rfl (by show 2 ≤ _; decide) (args := [.slice oa N cp, .slice ob n cq]) fun c h0 hex => ?_
  refine go _ ?_
  refine ro_splitP 12 rfl (fun h1 => ?_) (fun h1 => ?_)
  · refine go _ ?_
    refine J_ret ?_
    exact ends_retS [4] rfl
  refine go _ ?_
  refine J_condP rfl (fun h2 => ?_) (fun h2 => ?_)
  · refine go _ ?_
    refine J_ret ?_
    exact ends_retS [4] rfl
  have hN : N ≤ 2147483647 := by omega
  have hn : n ≤ 2147483647 := by omega
  refine go _ ?_
  refine ro_callT (tooMany_t ob n cq z hz (by omega)) ?_
  rintro v m ⟨rfl, b, rfl, hb⟩
  refine go _ ?_
  cases b with
  | true =>
    refine J_cond rfl (fun hbb => ?_) (fun hbb => by cases hbb)
    refine go _ ?_
    refine ro_callT (wakes_t S fb hfb hfn hfv) ?_
    rintro v m rfl
    refine go _ ?_
    refine J_ret ?_
    exact ends_retS [4] (post := []) (junk := m ++ []) rfl rfl (.refl _)
  | false =>
  refine J_cond rfl (fun hbb => by cases hbb) (fun _ => ?_)
  have hzl := hb rfl
  refine go _ ?_
  refine ro_callT (steps_t S V hd oa cp hv (by omega) ob n cq z hz (by omega) hzl) ?_
  rintro v m ⟨om1, bl1, rfl, cl1, hsl1, hc1⟩
  obtain ⟨a1, c1, rfl⟩ := slmForm hsl1
  refine go _ ?_
  refine ro_callT (steps_t S V hd oa cp hv (by omega) ob n cq z hz (by omega) hzl) ?_ (fm := (om1 ++ bl1) ++ []) (hs := .refl _)
  rintro v m ⟨om2, bl2, rfl, cl2, hsl2, hc2⟩
  obtain ⟨a2, c2, rfl⟩ := slmForm hsl2
  refine go _ ?_
  refine ro_splitP 31 rfl (fun h => absurd rfl h) (fun _ => ?_)
  refine go _ ?_
  refine J_condP rfl (fun h => absurd rfl h) (fun _ => ?_)
  refine go _ ?_
  refine J_loopL (σ := Nat × Mem) [] (fun t => [(1, .slice ob n cq), (6, .slice a2 n c2), (38, .slice a1 n c1), (39, .int .i64 (n : Nat)), (40, .int .i64 (t.1 : Nat))]) (fun t => om1 ++ (bl1 ++ (om2 ++ (bl2 ++ t.2))))
    (fun t => t.1 ≤ n) (fun t => n - t.1) (0, []) (.of_perm (by classical exact List.perm_iff_count.2 fun a => by first | (simp only [List.count_append, List.count_cons, List.count_nil]; omega) | (simp only [List.append_eq, List.count_append, List.count_cons, List.count_nil]; omega))) (Nat.zero_le _) ?_
  rintro ⟨i, j1⟩ f hi
  dsimp only at hi ⊢
  refine go _ ?_
  refine J_condP rfl (fun hlt => ?_) (fun hge => ?_)
  · have hlt' : i < n := by omega
    obtain ⟨d1, e1, x1, x2, x3, x4⟩ := hc1 i hlt'
    obtain ⟨d2, e2, y1, y2, y3, y4⟩ := hc2 i hlt'
    have hk := stp_k (dat := dat) (N := N) (stpAt dat N (PS.init CE.zero) z i) (z i)
    have hcd := stp_code (dat := dat) (N := N) (stpAt dat N (PS.init CE.zero) z i) (z i)
    generalize stp dat N (stpAt dat N (PS.init CE.zero) z i) (z i) = r at x1 x2 x3 x4 y1 y2 y3 y4 hk hcd
    obtain ⟨p2, k, code, D⟩ := r
    dsimp only at x1 x2 x3 x4 y1 y2 y3 y4 hk hcd
    obtain ⟨b1, o1, B1, rfl, hB1, hb1, g1⟩ : ∃ b1 o1 B1, a1 = some ⟨b1, o1, none⟩ ∧ (b1, B1) ∈ om1 ∧ o1 + n * 3 ≤ B1.n ∧ ∀ i, i < n * 3 → B1.g (o1 + i) = cl1 i := by
      rcases hsl1 with ⟨_, h, _⟩ | ⟨b, o, cap, B, h1, rfl, h2, h3, h4, h5⟩
      · omega
      · cases h1
        exact ⟨b, o, B, rfl, List.mem_singleton.2 rfl, by omega, h5⟩
    obtain ⟨b2, o2, B2, rfl, hB2, hb2, g2⟩ : ∃ b2 o2 B2, a2 = some ⟨b2, o2, none⟩ ∧ (b2, B2) ∈ om2 ∧ o2 + n * 3 ≤ B2.n ∧ ∀ i, i < n * 3 → B2.g (o2 + i) = cl2 i := by
      rcases hsl2 with ⟨_, h, _⟩ | ⟨b, o, cap, B, h1, rfl, h2, h3, h4, h5⟩
      · omega
      · cases h1
        exact ⟨b, o, B, rfl, List.mem_singleton.2 rfl, by omega, h5⟩
    refine go _ ?_
    have eL : tabL (2 + 1) (fun j => B1.g (o1 + i * (2 + 1) + j)) = [.int .i64 (k : Nat), .slice d1 k e1, .int .i64 (code : Nat)] := by
      show [B1.g (o1 + i * (2 + 1) + 0), B1.g (o1 + i * (2 + 1) + 1), B1.g (o1 + i * (2 + 1) + 2)] = _
      rw [show o1 + i * (2 + 1) + 0 = o1 + 3 * i by omega, show o1 + i * (2 + 1) + 1 = o1 + (3 * i + 1) by omega, show o1 + i * (2 + 1) + 2 = o1 + (3 * i + 2) by omega, g1 _ (by omega), g1 _ (by omega), g1 _ (by omega), x1, x2, x3]
    refine ro_loadAggA (s := 2) rfl rfl rfl (List.mem_append.2 (.inl (List.mem_append.2 (.inl hB1)))) (by omega) rfl ?_
    rw [eL]
    refine go _ ?_
    refine ro_alloc z49 rfl hex fun cb hcb => ?_
    refine go _ ?_
    refine ro_storeAgg (s := 2) (vs := [.int .i64 (k : Nat), .slice d1 k e1, .int .i64 (code : Nat)]) rfl rfl rfl rfl (fun v hv => by simp only [List.mem_cons, List.not_mem_nil, or_false] at hv; rcases hv with rfl | rfl | rfl <;> rfl) .here (Nat.le_refl 3) rfl hex ?_
    refine RO_eqv (m' := (cb, listB [.int .i64 (k : Nat), .slice d1 k e1, .int .i64 (code : Nat)] 49) :: (om1 ++ (bl1 ++ (om2 ++ (bl2 ++ j1))))) ?hM ?hQ ?hR
    case hM => exact .cons (blk_tab rfl rfl rfl rfl) (.refl _)
    case hQ => intro f h; refine J_eqv ?_ h; exact .cons (blk_tab rfl rfl rfl rfl) (.refl _)
    refine ro_nil ?_
    refine J_seq ?_
    refine J_seq ?_
    refine J_regionQ (qs := [18]) [0, 1, 2, 3, 4, 5, 6, 7, 8, 9, 10, 11, 12, 13, 14, 15, 16, 17, 18, 19, 20, 21, 22, 23, 24, 25, 26, 27, 28, 29, 30] rfl (by kernel_rfl) ?_
    refine go _ ?_
    refine ro_splitP 48 rfl (fun h => absurd h (by omega)) (fun _ => ?_)
    refine go _ ?_
    obtain ⟨b0, o0, B0, rfl, hB0, hBn0, hBg0⟩ := hz.some (by omega)
    refine ro_splitP 56 rfl (fun h => absurd rfl h) (fun _ => ?_)
    refine go _ ?_
    refine ro_loadA (v := .int .i64 (z i)) rfl rfl (List.mem_append.2 (.inr hB0)) (by omega) (hBg0 i hlt') rfl ?_
    refine go _ ?_
    refine ro_callQT (asked_q (z i)) ?_
    refine go _ ?_
    refine ro_splitP 66 rfl (fun h => absurd h (by omega)) (fun _ => ?_)
    refine go _ ?_
    refine J_condP rfl (fun h => absurd h (by omega)) (fun _ => ?_)
    refine go _ ?_
    have hB2' : (b2, B2) ∈ ((cb, listB [.int .i64 (k : Nat), .slice d1 k e1, .int .i64 (code : Nat)] 49) :: (om1 ++ (bl1 ++ (om2 ++ (bl2 ++ j1))))) ++ G := by simp [hB2]
    refine ro_loadA (v := .int .i64 (k : Nat)) rfl rfl hB2' (by omega) (by rw [show o2 + i * (2 + 1) + 0 = o2 + 3 * i by omega, g2 _ (by omega), y1]) rfl ?_
    refine go _ ?_
    refine ro_splitP 84 rfl (fun h => absurd rfl h) (fun _ => ?_)
    refine go _ ?_
    refine ro_loadA (v := .int .i64 (code : Nat)) rfl rfl hB2' (by omega) (by rw [show o2 + i * (2 + 1) + 2 = o2 + (3 * i + 2) by omega, g2 _ (by omega), y3]) rfl ?_
    refine go _ ?_
    refine ro_splitP 94 rfl (fun h => absurd rfl h) (fun _ => ?_)
    refine go _ ?_
    refine ro_loadA (v := .slice d2 k e2) rfl rfl hB2' (by omega) (by rw [show o2 + i * (2 + 1) + 1 = o2 + (3 * i + 1) by omega, g2 _ (by omega), y2]) rfl ?_
    refine go _ ?_
    refine ro_callTF (Trip.freeze (fm := bl1 ++ bl2) (same_t d1 d2 k k e1 e2 D D (x4.mono fun p hp => by simp [hp]) (y4.mono fun p hp => by simp [hp]) rfl fun _ _ => rfl)) ?_ (fm := (cb, listB [.int .i64 (k : Nat), .slice d1 k e1, .int .i64 (code : Nat)] 49) :: (om1 ++ (om2 ++ j1))) (hs := .of_perm (by classical exact List.perm_iff_count.2 fun a => by first | (simp only [List.count_append, List.count_cons, List.count_nil]; omega) | (simp only [List.append_eq, List.count_append, List.count_cons, List.count_nil]; omega)))
    rintro v m ⟨m0, ⟨hm0, rfl⟩, hm⟩
    rw [hm, hm0, List.nil_append]
    refine go _ ?_
    exact ⟨(i + 1, (cb, listB [.int .i64 (k : Nat), .slice d1 k e1, .int .i64 (code : Nat)] 49) :: j1), by dsimp only; omega, by dsimp only; omega, ⟨rfl, rfl, rfl, rfl, rfl, trivial⟩, .of_perm (by classical exact List.perm_iff_count.2 fun a => by first | (simp only [List.count_append, List.count_cons, List.count_nil]; omega) | (simp only [List.append_eq, List.count_append, List.count_cons, List.count_nil]; omega))⟩
  · refine go _ ?_
    refine ro_callT (wakes_t S fb hfb hfn hfv) ?_
    rintro v m rfl
    refine go _ ?_
    refine J_ret ?_
    exact ends_retS [4] (post := []) (junk := m ++ (om1 ++ (bl1 ++ (om2 ++ (bl2 ++ j1))))) rfl rfl (.of_perm (by classical exact List.perm_iff_count.2 fun a => by first | (simp only [List.count_append, List.count_cons, List.count_nil]; omega) | (simp only [List.append_eq, List.count_append, List.count_cons, List.count_nil]; omega)))
end Go.Proofs.YtogmacnlpclgkaaDoor
