/-
  TEXTS MERGED: W18, W19, W20, W21.
-/
import Derived.Test.YtogmacnlpclgkaaDoorK16
/-! WALKS 18: XXH64, update. -/
namespace Go.Proofs.YtogmacnlpclgkaaDoor
open Go Go.Eng
attribute [local irreducible] RO J Trip Quiet
set_option maxRecDepth 4000
variable {G : Mem}

theorem subA_0 {oa : Option Addr} {cp : Nat} (h : ∀ b o s, oa = some ⟨b, o, s⟩ → True) : subA oa 0 cp = oa := by
  unfold subA
  split
  · rfl
  · unfold sOff; split <;> simp

theorem st_ne {B : Blk} {o i : Nat} {v : Value} (h : i ≠ o) : (B.st o v).g i = B.g i := upd_other _ _ _ _ h
theorem xb_viewS {m : Mem} {rb : Nat} {B : Blk} {b : Nat → Nat} (hB : ∀ i, i < 32 → B.g (50 + i) = .int .u8 (b i)) (hn : B.n = 83) (o : Nat) (ho : o ≤ 32) : View (((rb, B) :: m) ++ G) (some ⟨rb, 50 + o, none⟩) (32 - o) (32 - o) (fun i => b (o + i)) :=
  ⟨Nat.le_refl _, .inr ⟨rb, 50 + o, B, rfl, List.mem_append.2 (.inl List.mem_cons_self), fun _ => by omega, fun i hi => by rw [Nat.add_assoc]; exact hB (o + i) (by omega)⟩⟩

theorem xacc_succ (T : Nat → Nat) (n i : Nat) : xacc T (n + 1) i = xrnd (xacc T n i) (le8 fun j => T (32 * n + (8 * i + j))) := by rw [xacc]
theorem le8_congr {x y : Nat → Nat} (h : ∀ j, j < 8 → x j = y j) : le8 x = le8 y := by
  unfold le8 le4
  dsimp only
  rw [h 0 (by omega), h 1 (by omega), h 2 (by omega), h 3 (by omega), h (0 + 4) (by omega), h (1 + 4) (by omega), h (2 + 4) (by omega), h (3 + 4) (by omega)]

theorem rd_xst4 (x : Int) (s : RS) (l : Nat) (v b : Nat → Nat) (n v0 v1 v2 v3 : Nat) :
    ((((((rdB x (s.wChk l v b n)).st (45 + 1 + 0) (.int .u64 v0)).st (45 + 1 + 1) (.int .u64 v1)).st (45 + 1 + 2) (.int .u64 v2)).st (45 + 1 + 3) (.int .u64 v3)).st (45 + 37) (.int .i64 0)).obj = (rdB x (s.wChk l (fun i => [v0, v1, v2, v3].getD i 0) b 0)).obj := blk_tab rfl rfl rfl rfl
theorem rd_xst4' (x : Int) (s : RS) (l : Nat) (v b : Nat → Nat) (n v0 v1 v2 v3 : Nat) :
    (((((rdB x (s.wChk l v b n)).st (45 + 1 + 0) (.int .u64 v0)).st (45 + 1 + 1) (.int .u64 v1)).st (45 + 1 + 2) (.int .u64 v2)).st (45 + 1 + 3) (.int .u64 v3)).obj = (rdB x (s.wChk l (fun i => [v0, v1, v2, v3].getD i 0) b n)).obj := blk_tab rfl rfl rfl rfl
theorem rd_xst1 (x : Int) (s : RS) (l : Nat) : ((rdB x s).st (45 + 0) (.int .u64 l)).obj = (rdB x (s.wChk l s.xv s.xb s.xc)).obj := blk_tab rfl rfl rfl rfl
theorem xacc_step {T v B : Nat → Nat} {n v0 v1 v2 v3 : Nat} (hV : ∀ i, i < 4 → v i = xacc T n i) (hB : ∀ i, i < 32 → B i = T (32 * n + i))
    (h0 : xrnd (v 0) (le8 fun i => B (0 + i)) = v0) (h1 : xrnd (v 1) (le8 fun i => B (8 + i)) = v1) (h2 : xrnd (v 2) (le8 fun i => B (16 + i)) = v2) (h3 : xrnd (v 3) (le8 fun i => B (24 + i)) = v3) :
    ∀ i, i < 4 → [v0, v1, v2, v3].getD i 0 = xacc T (n + 1) i := by
  have hl : ∀ k, k + 8 ≤ 32 → le8 (fun j => T (32 * n + (k + j))) = le8 fun i => B (k + i) := fun k hk => le8_congr fun j hj => (hB _ (by omega)).symm
  intro i hi
  rw [xacc_succ, ← hV i hi, hl (8 * i) (by omega)]
  match i, hi with
  | 0, _ => exact h0.symm
  | 1, _ => exact h1.symm
  | 2, _ => exact h2.symm
  | 3, _ => exact h3.symm
set_option maxRecDepth 20000 in
set_option maxHeartbeats 1000000 in
theorem xupd_t (rb : Nat) (x : Int) (s : RS) (T S : Nat → Nat) (N bl bcp : Nat) (oa : Option Addr) (bm : Mem) (hx : XhM s T N) (hv : View bm oa bl bcp S) (hS : ∀ i, S i < 256) (hbl : bl ≤ 2 ^ 30) :
    Trip Tryd.prog G 55 #[.pointer (some ⟨rb, 45, none⟩), .slice oa bl bcp] ((rb, rdB x s) :: bm) (fun _ m =>
      ∃ l v b n, XhM (s.wChk l v b n) (catF T N S) (N + bl) ∧ m = (rb, rdB x (s.wChk l v b n)) :: bm) := by
  refine Trip_of Tryd.func55 rfl (by show 2 ≤ _; decide) (args := [.pointer (some ⟨rb, 45, none⟩), .slice oa bl bcp]) fun c h0 hex => ?_
  obtain ⟨hl, ha, hc, hb, hby⟩ := hx
  have hc32 : s.xc < 32 := by omega
  refine go _ ?_
  refine ro_addU rfl rfl rfl rfl rfl rfl ?_
  rw [q64_bits]
  refine go _ ?_
  have hv' : ∀ B : Blk, View ((rb, B) :: bm ++ G) oa bl bcp S := fun B => hv.mono fun p hp => by simp [hp]
  have hdn : (N + bl) / 32 = N / 32 + (N % 32 + bl) / 32 := by omega
  have hxl : (s.xl + bl) % q64 = (N + bl) % q64 := by rw [hl, Nat.mod_add_mod]
  rw [hxl]
  refine J_eqv (.cons (rd_xst1 x s _) (.refl _)) ?_
  refine J_condP rfl (fun (hlt : ((s.xc + bl : Nat) : Int) < 32) => ?_) (fun (hge : ¬ ((s.xc + bl : Nat) : Int) < 32) => ?_)
  · have hlt' : s.xc + bl < 32 := by omega
    refine go _ ?_
    obtain ⟨src, hsrc, hsv⟩ := (hv' _).src
    refine ro_copy (s := 0) rfl rfl rfl rfl hsrc (fun j hj => by rw [hsv j (by omega)]; rfl) .here rfl (by show _ ≤ 83; omega) hex rfl ?_
    have hm : min bl (32 - s.xc) * (0 + 1) = bl := by omega
    rw [hm]
    have he := rd_xput x (s.wChk ((N + bl) % q64) s.xv s.xb s.xc) s.xc bl (by omega) src S hsv
    refine RO_eqv (.cons he (.refl _)) (fun _ h => J_eqv (.cons he (.refl _)) h) ?_
    refine go _ ?_
    refine J_ret ?_
    have hd : (N + bl) / 32 = N / 32 := by omega
    refine ends_retS [] (junk := []) ⟨(N + bl) % q64, s.xv, blitN s.xb s.xc bl S, s.xc + bl, ⟨rfl, fun i hi => ?_, ?_, fun i hi => ?_, fun i => ?_⟩, rfl⟩ rfl (.cons (blk_tab rfl rfl rfl rfl) (by simpa using MEqv.refl _))
    · show s.xv i = _
      rw [ha i hi, hd]
      refine xacc_congr _ (fun j hj => ?_) i hi
      unfold catF; rw [if_pos (by omega)]
    · show s.xc + bl = _
      omega
    · show blitN s.xb s.xc bl S i = _
      rw [hd]
      unfold blitN catF
      by_cases h1 : i < s.xc
      · rw [if_neg (by omega), if_pos (by omega), hb i (by omega)]
      · rw [if_pos (by omega), if_neg (by omega)]; congr 1; omega
    · show blitN s.xb s.xc bl S i < 256
      unfold blitN; split
      · exact hS _
      · exact hby _
  have hge' : 32 ≤ s.xc + bl := by omega
  -- the stripe that was begun
  refine go _ ?_
  refine J_joinE (σ := Option Addr × Nat × Nat × Nat × (Nat → Nat)) [0] (fun t => [(1, .slice t.1 t.2.1 t.2.2.1)]) (fun t => (rb, rdB x (s.wChk ((N + bl) % q64) (xacc (catF T N S) t.2.2.2.1) t.2.2.2.2 0)) :: bm)
    (fun t => View bm t.1 t.2.1 t.2.2.1 (fun i => catF T N S (32 * t.2.2.2.1 + i)) ∧ 32 * t.2.2.2.1 + t.2.1 = N + bl ∧ N ≤ 32 * t.2.2.2.1 ∧ ∀ i, t.2.2.2.2 i < 256) ?_ ?_
  · refine J_condP rfl (fun (hp : ((s.xc : Nat) : Int) > 0) => ?_) (fun (hz : ¬ ((s.xc : Nat) : Int) > 0) => ?_)
    · have hp' : 0 < s.xc := by omega
      refine go _ ?_
      obtain ⟨src, hsrc, hsv⟩ := (hv' _).src
      refine ro_copy (s := 0) rfl rfl rfl rfl hsrc (fun j hj => by rw [hsv j (by omega)]; rfl) .here rfl (by show _ ≤ 83; omega) hex rfl ?_
      have hm : min bl (32 - s.xc) = 32 - s.xc := by omega
      rw [hm, Nat.zero_add, Nat.mul_one]
      have he : _ = (rdB x (s.wChk ((N + bl) % q64) s.xv (blitN s.xb s.xc (32 - s.xc) S) s.xc)).obj := rd_xput x (s.wChk ((N + bl) % q64) s.xv s.xb s.xc) s.xc (32 - s.xc) (by omega) src S (fun j hj => hsv j (by omega))
      refine RO_eqv (.cons he (.refl _)) (fun _ h => J_eqv (.cons he (.refl _)) h) ?_
      have hBv : ∀ i, i < 32 → blitN s.xb s.xc (32 - s.xc) S i = catF T N S (32 * (N / 32) + i) := fun i hi => by
        unfold blitN catF
        by_cases h1 : i < s.xc
        · rw [if_neg (by omega), if_pos (by omega), hb i (by omega)]
        · rw [if_pos (by omega), if_neg (by omega)]; congr 1; omega
      have hBb : ∀ i, blitN s.xb s.xc (32 - s.xc) S i < 256 := fun i => by
        unfold blitN; split
        · exact hS _
        · exact hby _
      generalize blitN s.xb s.xc (32 - s.xc) S = B at hBv hBb ⊢
      refine go _ ?_
      refine ro_slV (32 - s.xc) bl hv rfl rfl rfl rfl rfl rfl rfl (by omega) hv.le rfl ?_
      have q0 : ∀ i, i < 32 → (rdB x (s.wChk ((N + bl) % q64) s.xv B s.xc)).g (50 + i) = .int .u8 (B i) := rd_xb x (s.wChk ((N + bl) % q64) s.xv B s.xc)
      refine go _ ?_
      refine ro_callQT (le64_v (xb_viewS q0 rfl 0 (by decide)) (fun _ => hBb _) (by decide)) ?_
      refine go _ ?_
      refine ro_callQT (xrnd_q _ rfl) ?_
      generalize hv0 : xrnd (s.xv 0) (le8 fun i => B (0 + i)) = v0
      refine go _ ?_
      have q1 := fun i hi => (st_ne (o := 45 + 1 + 0) (v := .int .u64 v0) (show 50 + i ≠ 46 by omega)).trans (q0 i hi)
      refine ro_callQT (le64_v (xb_viewS q1 rfl 8 (by decide)) (fun _ => hBb _) (by decide)) ?_
      refine go _ ?_
      refine ro_callQT (xrnd_q _ rfl) ?_
      generalize hv1 : xrnd (s.xv 1) (le8 fun i => B (8 + i)) = v1
      refine go _ ?_
      have q2 := fun i hi => (st_ne (o := 45 + 1 + 1) (v := .int .u64 v1) (show 50 + i ≠ 47 by omega)).trans (q1 i hi)
      refine ro_callQT (le64_v (xb_viewS q2 rfl 16 (by decide)) (fun _ => hBb _) (by decide)) ?_
      refine go _ ?_
      refine ro_callQT (xrnd_q _ rfl) ?_
      generalize hv2 : xrnd (s.xv 2) (le8 fun i => B (16 + i)) = v2
      refine go _ ?_
      have q3 := fun i hi => (st_ne (o := 45 + 1 + 2) (v := .int .u64 v2) (show 50 + i ≠ 48 by omega)).trans (q2 i hi)
      refine ro_callQT (le64_v (xb_viewS q3 rfl 24 (by decide)) (fun _ => hBb _) (by decide)) ?_
      refine go _ ?_
      refine ro_callQT (xrnd_q _ rfl) ?_
      generalize hv3 : xrnd (s.xv 3) (le8 fun i => B (24 + i)) = v3
      refine go _ ?_
      have hT : ∀ i, i < 4 → xacc T (N / 32) i = xacc (catF T N S) (N / 32) i := fun i hi => xacc_congr _ (fun j hj => by unfold catF; rw [if_pos (by omega)]) i hi
      refine ⟨(subA oa (32 - s.xc) bcp, bl - (32 - s.xc), bcp - (32 - s.xc), N / 32 + 1, B), ⟨?_, ?_, (by show N ≤ 32 * (N / 32 + 1); omega), hBb⟩, joined (.cons ?_ (.refl _))⟩
      · refine (hv.sub (l := 32 - s.xc) (h := bl) (by omega) (Nat.le_refl _)).congr fun i hi => ?_
        show _ = catF T N S (32 * (N / 32 + 1) + i)
        unfold catF; rw [if_neg (by omega)]; congr 1; omega
      · show 32 * (N / 32 + 1) + (bl - (32 - s.xc)) = N + bl
        omega
      · exact (rd_xst4 x s _ _ _ _ _ _ _ _).trans (rd_xv x s _ _ _ _ _ (xacc_step (fun i hi => (ha i hi).trans (hT i hi)) hBv hv0 hv1 hv2 hv3))
    · have h0 : s.xc = 0 := by omega
      refine go _ ?_
      refine ⟨(oa, bl, bcp, N / 32, s.xb), ⟨hv.congr fun i hi => ?_, ?_, (by show N ≤ 32 * (N / 32); omega), hby⟩, joined (.cons ?_ (.refl _))⟩
      · show _ = catF T N S (32 * (N / 32) + i)
        unfold catF; rw [if_neg (by omega)]; congr 1; omega
      · show 32 * (N / 32) + bl = N + bl
        omega
      · rw [h0]
        exact rd_xv x s _ _ _ _ _ fun i hi => (ha i hi).trans (xacc_congr _ (fun j hj => by unfold catF; rw [if_pos (by omega)]) i hi)
  · rintro ⟨oa1, n1, cp1, q1, b1⟩ f ⟨hv1, hn1, hq1, hb1⟩
    dsimp only at hv1 hn1 hq1 hb1 ⊢
    refine go _ ?_
    refine J_loopL (σ := Option Addr × Nat × Nat × Nat) [0] (fun t => [(1, .slice t.1 t.2.1 t.2.2.1)]) (fun t => (rb, rdB x (s.wChk ((N + bl) % q64) (xacc (catF T N S) t.2.2.2) b1 0)) :: bm)
      (fun t => View bm t.1 t.2.1 t.2.2.1 (fun i => catF T N S (32 * t.2.2.2 + i)) ∧ 32 * t.2.2.2 + t.2.1 = N + bl ∧ N ≤ 32 * t.2.2.2) (fun t => t.2.1) (oa1, n1, cp1, q1) (.refl _) ⟨hv1, hn1, hq1⟩ ?_
    clear hv1 hn1 hq1 oa1 n1 cp1 q1
    rintro ⟨oa1, n1, cp1, q1⟩ f ⟨hv1, hn1, hq1⟩
    dsimp only at hv1 hn1 hq1 ⊢
    have hv1' : ∀ B : Blk, View ((rb, B) :: bm ++ G) oa1 n1 cp1 (fun i => catF T N S (32 * q1 + i)) := fun B => hv1.mono fun p hp => by simp [hp]
    have hTb : ∀ i, catF T N S (32 * q1 + i) < 256 := fun i => by unfold catF; rw [if_neg (by omega)]; exact hS _
    refine go _ ?_
    refine J_condP rfl (fun (hg : ((n1 : Nat) : Int) ≥ 32) => ?_) (fun (hg : ¬ ((n1 : Nat) : Int) ≥ 32) => ?_)
    · have hg' : 32 ≤ n1 := by omega
      have hV : ∀ k, k + 8 ≤ n1 → ∀ B : Blk, View ((rb, B) :: bm ++ G) (subA oa1 k cp1) (n1 - k) (cp1 - k) (fun i => catF T N S (32 * q1 + (k + i))) := fun k hk B => (hv1' B).sub (by omega) (Nat.le_refl _)
      have hcp := hv1.le
      refine go _ ?_
      refine ro_callQT (le64_v (hv1' _) hTb (by omega)) ?_
      refine go _ ?_
      refine ro_callQT (xrnd_q _ rfl) ?_
      generalize hw0 : xrnd (xacc (catF T N S) q1 0) (le8 fun i => catF T N S (32 * q1 + i)) = v0
      refine go _ ?_
      refine ro_slV 8 n1 hv1 rfl rfl rfl rfl rfl rfl rfl (by omega) hcp rfl ?_
      refine go _ ?_
      refine ro_callQT (le64_v (hV 8 (by omega) _) (fun i => hTb _) (by omega)) ?_
      refine go _ ?_
      refine ro_callQT (xrnd_q _ rfl) ?_
      generalize hw1 : xrnd (xacc (catF T N S) q1 1) (le8 fun i => catF T N S (32 * q1 + (8 + i))) = v1
      refine go _ ?_
      refine ro_slV 16 n1 hv1 rfl rfl rfl rfl rfl rfl rfl (by omega) hcp rfl ?_
      refine go _ ?_
      refine ro_callQT (le64_v (hV 16 (by omega) _) (fun i => hTb _) (by omega)) ?_
      refine go _ ?_
      refine ro_callQT (xrnd_q _ rfl) ?_
      generalize hw2 : xrnd (xacc (catF T N S) q1 2) (le8 fun i => catF T N S (32 * q1 + (16 + i))) = v2
      refine go _ ?_
      refine ro_slV 24 n1 hv1 rfl rfl rfl rfl rfl rfl rfl (by omega) hcp rfl ?_
      refine go _ ?_
      refine ro_callQT (le64_v (hV 24 (by omega) _) (fun i => hTb _) (by omega)) ?_
      refine go _ ?_
      refine ro_callQT (xrnd_q _ rfl) ?_
      generalize hw3 : xrnd (xacc (catF T N S) q1 3) (le8 fun i => catF T N S (32 * q1 + (24 + i))) = v3
      refine go _ ?_
      refine ro_slV 32 n1 hv1 rfl rfl rfl rfl rfl rfl rfl (by omega) hcp rfl ?_
      refine go _ ?_
      refine ⟨(subA oa1 32 cp1, n1 - 32, cp1 - 32, q1 + 1), (by show n1 - 32 < n1; omega), ⟨(hv1.sub (l := 32) (h := n1) (by omega) (Nat.le_refl _)).congr fun i hi => ?_, (by show 32 * (q1 + 1) + (n1 - 32) = N + bl; omega), (by show N ≤ 32 * (q1 + 1); omega)⟩, joined (.cons ?_ (.refl _))⟩
      · show catF T N S (32 * q1 + (32 + i)) = catF T N S (32 * (q1 + 1) + i)
        congr 1; omega
      · exact (rd_xst4' x s _ _ _ _ _ _ _ _).trans (rd_xv x s _ _ _ _ _ (xacc_step (B := fun i => catF T N S (32 * q1 + i)) (fun i hi => rfl) (fun i hi => rfl) (by simpa only [Nat.zero_add] using hw0) hw1 hw2 hw3))
    · have hq : (N + bl) / 32 = q1 := by omega
      refine go _ ?_
      refine J_condP rfl (fun (hp : ((n1 : Nat) : Int) > 0) => ?_) (fun (hz : ¬ ((n1 : Nat) : Int) > 0) => ?_)
      · refine go _ ?_
        obtain ⟨src, hsrc, hsv⟩ := (hv1' _).src
        refine ro_copy (s := 0) rfl rfl rfl rfl hsrc (fun j hj => by rw [hsv j (by omega)]; rfl) .here rfl (by show 45 + 5 + _ ≤ 83; omega) hex rfl ?_
        have hm : min n1 32 * (0 + 1) = n1 := by omega
        rw [hm]
        have he := rd_xput x (s.wChk ((N + bl) % q64) (xacc (catF T N S) q1) b1 0) 0 n1 (by omega) src _ hsv
        refine RO_eqv (.cons he (.refl _)) (fun _ h => J_eqv (.cons he (.refl _)) h) ?_
        refine go _ ?_
        refine ends_normalS [] (junk := []) ⟨(N + bl) % q64, xacc (catF T N S) q1, blitN b1 0 n1 (fun i => catF T N S (32 * q1 + i)), n1, ⟨rfl, fun i hi => ?_, ?_, fun i hi => ?_, fun i => ?_⟩, rfl⟩ rfl (.cons (blk_tab rfl rfl rfl rfl) (by simpa using MEqv.refl _))
        · rw [hq]
        · show n1 = _
          omega
        · show blitN b1 0 n1 (fun i => catF T N S (32 * q1 + i)) i = _
          rw [hq]
          unfold blitN
          rw [if_pos (by omega), Nat.sub_zero]
        · show blitN b1 0 n1 (fun i => catF T N S (32 * q1 + i)) i < 256
          unfold blitN; split
          · exact hTb _
          · exact hb1 _
      · have h0 : n1 = 0 := by omega
        refine go _ ?_
        refine ends_normalS [] (junk := []) ⟨(N + bl) % q64, xacc (catF T N S) q1, b1, 0, ⟨rfl, fun i hi => ?_, ?_, fun i hi => ?_, hb1⟩, rfl⟩ rfl (by simpa using MEqv.refl _)
        · rw [hq]
        · show 0 = _
          omega
        · omega
end Go.Proofs.YtogmacnlpclgkaaDoor

/-! WALKS 19: XXH64, digest. -/
namespace Go.Proofs.YtogmacnlpclgkaaDoor
open Go Go.Eng
attribute [local irreducible] RO J Trip Quiet
set_option maxRecDepth 20000
variable {G : Mem}

def xs8 (h k : Nat) : Nat := (rotl (h ^^^ xrnd 0 k) 27 * xp1 % q64 + xp4) % q64
def xs4 (h k : Nat) : Nat := (rotl (h ^^^ (k * xp1 % q64)) 23 * xp2 % q64 + xp3) % q64
def xs1 (h k : Nat) : Nat := rotl (h ^^^ (k * xp5 % q64)) 11 * xp1 % q64
theorem xs8_lt (h k : Nat) : xs8 h k < q64 := q64_lt _
theorem xs4_lt (h k : Nat) : xs4 h k < q64 := q64_lt _
theorem xs1_lt (h k : Nat) : xs1 h k < q64 := q64_lt _
theorem xor64 {a b : Nat} (ha : a < q64) (hb : b < q64) : a ^^^ b < q64 := by
  rw [q64_eq] at *; exact Nat.xor_lt_two_pow ha hb
/-- Words of eight bytes, bytes taken in. -/
def xt8 (T : Nat → Nat) (h : Nat) : Nat → Nat
  | 0 => h
  | j + 1 => xs8 (xt8 T h j) (le8 fun i => T (8 * j + i))
def xt1 (T : Nat → Nat) (h : Nat) : Nat → Nat
  | 0 => h
  | j + 1 => xs1 (xt1 T h j) (T j)
theorem xt8_lt (T : Nat → Nat) {h : Nat} (hh : h < q64) : ∀ j, xt8 T h j < q64
  | 0 => hh
  | j + 1 => by rw [xt8]; exact xs8_lt _ _
theorem xt1_lt (T : Nat → Nat) {h : Nat} (hh : h < q64) : ∀ j, xt1 T h j < q64
  | 0 => hh
  | j + 1 => by rw [xt1]; exact xs1_lt _ _
theorem xt8_congr {T T' : Nat → Nat} {h : Nat} : ∀ j, (∀ i, i < 8 * j → T i = T' i) → xt8 T h j = xt8 T' h j
  | 0, _ => rfl
  | j + 1, e => by
    rw [xt8, xt8, xt8_congr j (fun i hi => e i (by omega)), le8_congr fun i hi => e (8 * j + i) (by omega)]
theorem xt1_congr {T T' : Nat → Nat} {h : Nat} : ∀ j, (∀ i, i < j → T i = T' i) → xt1 T h j = xt1 T' h j
  | 0, _ => rfl
  | j + 1, e => by
    rw [xt1, xt1, xt1_congr j (fun i hi => e i (by omega)), e j (by omega)]
/-- The rest of less than 32 bytes. -/
def xtail (T : Nat → Nat) (h r : Nat) : Nat :=
  let a := xt8 T h (r / 8)
  let b := if 4 ≤ r % 8 then xs4 a (le4 fun i => T (8 * (r / 8) + i)) else a
  xt1 (fun i => T (4 * (r / 4) + i)) b (r % 4)
theorem xtail_congr {T T' : Nat → Nat} {h r : Nat} (e : ∀ i, i < r → T i = T' i) : xtail T h r = xtail T' h r := by
  unfold xtail
  dsimp only
  rw [xt8_congr (r / 8) fun i hi => e i (by omega)]
  have e4 : 4 ≤ r % 8 → le4 (fun i => T (8 * (r / 8) + i)) = le4 fun i => T' (8 * (r / 8) + i) := fun h => by
    unfold le4
    dsimp only
    rw [e (8 * (r / 8) + 0) (by omega), e (8 * (r / 8) + 1) (by omega), e (8 * (r / 8) + 2) (by omega), e (8 * (r / 8) + 3) (by omega)]
  have : (if 4 ≤ r % 8 then xs4 (xt8 T' h (r / 8)) (le4 fun i => T (8 * (r / 8) + i)) else xt8 T' h (r / 8)) = if 4 ≤ r % 8 then xs4 (xt8 T' h (r / 8)) (le4 fun i => T' (8 * (r / 8) + i)) else xt8 T' h (r / 8) := by
    by_cases h4 : 4 ≤ r % 8
    · rw [if_pos h4, if_pos h4, e4 h4]
    · rw [if_neg h4, if_neg h4]
  rw [this]
  exact xt1_congr _ fun i hi => e _ (by omega)
def xfin (h : Nat) : Nat :=
  let a := (h ^^^ h / 2 ^ 33) * xp2 % q64
  let b := (a ^^^ a / 2 ^ 29) * xp3 % q64
  b ^^^ b / 2 ^ 32
/-- The accumulators brought together. -/
def xsum (v : Nat → Nat) : Nat :=
  xmrg (xmrg (xmrg (xmrg ((((rotl (v 0) 1 + rotl (v 1) 7) % q64 + rotl (v 2) 12) % q64 + rotl (v 3) 18) % q64) (v 0)) (v 1)) (v 2)) (v 3)
def xhead (v : Nat → Nat) (l : Nat) : Nat := ((if l < 32 then (v 2 + xp5) % q64 else xsum v) + l) % q64
/-- XXH64 of the N bytes T. -/
def xdig (T : Nat → Nat) (N : Nat) : Nat := xfin (xtail (fun i => T (32 * (N / 32) + i)) (xhead (xacc T (N / 32)) (N % q64)) (N % 32))

set_option maxHeartbeats 1000000 in
theorem xdig_t (rb : Nat) (x : Int) (s : RS) (T : Nat → Nat) (N : Nat) (hx : XhM s T N) :
    Trip Tryd.prog G 57 #[.pointer (some ⟨rb, 45, none⟩)] [(rb, rdB x s)] (fun v m => v = .int .u64 (xdig T N) ∧ m = [(rb, rdB x s)]) := by
  refine Trip_of Tryd.func57 rfl (by show 1 ≤ _; decide) (args := [.pointer (some ⟨rb, 45, none⟩)]) fun c h0 hex => ?_
  obtain ⟨hl, ha, hc, hb, hby⟩ := hx
  have hxl : s.xl < q64 := by rw [hl]; exact q64_lt _
  have hvl : ∀ i, i < 4 → s.xv i < q64 := fun i hi => by
    rw [ha i hi]
    cases N / 32 with
    | zero => rw [q64_eq]; match i, hi with
      | 0, _ => show 6983438078262162902 < _; decide
      | 1, _ => show 14029467366897019727 < _; decide
      | 2, _ => show 0 < _; decide
      | 3, _ => show 7046029288634856825 < _; decide
    | succ n => rw [xacc_succ]; exact xrnd_lt _ _
  have hxl' : s.xl < 18446744073709551616 := by rw [q64_eq] at hxl; exact hxl
  refine go _ ?_
  refine J_joinE (σ := Nat) [0] (fun h => [(3, .int .u64 h)]) (fun _ => [(rb, rdB x s)]) (fun h => (h + s.xl) % q64 = xhead s.xv s.xl) ?_ ?_
  · refine J_condP rfl (fun hlt => ?_) (fun hge => ?_)
    · try refine J_seq ?_
      refine J_region (qs := qsT) mixed_ok (by kernel_rfl) ?_
      refine ro_batch (by conv => lhs; whnf) ?_
      refine ro_ixA1 (i := 2) rfl rfl rfl rfl rfl (by decide) rfl ?_
      refine ro_batch (by conv => lhs; whnf) ?_
      refine ro_load (v := .int .u64 (s.xv 2)) rfl rfl .here rfl rfl rfl ?_
      refine ro_addU rfl rfl rfl xp5_eq rfl rfl ?_
      rw [q64_bits]
      refine go _ ?_
      refine ⟨_, ?_, joined (.refl _)⟩
      unfold xhead; rw [if_pos (by omega)]
    · refine go _ ?_
      refine ro_callQT (rot_q (K := 1) 1 rfl (hvl 0 (by decide)) (by decide)) ?_
      refine go _ ?_
      refine ro_callQT (rot_q (K := 7) 7 rfl (hvl 1 (by decide)) (by decide)) ?_
      refine go _ ?_
      refine ro_addU rfl rfl rfl rfl rfl rfl ?_
      rw [q64_bits]
      refine go _ ?_
      refine ro_callQT (rot_q (K := 12) 12 rfl (hvl 2 (by decide)) (by decide)) ?_
      refine go _ ?_
      refine ro_addU rfl rfl rfl rfl rfl rfl ?_
      rw [q64_bits]
      refine go _ ?_
      refine ro_callQT (rot_q (K := 18) 18 rfl (hvl 3 (by decide)) (by decide)) ?_
      refine go _ ?_
      refine ro_addU rfl rfl rfl rfl rfl rfl ?_
      rw [q64_bits]
      refine go _ ?_
      refine ro_callQT (xmrg_q (q64_lt _)) ?_
      refine go _ ?_
      refine ro_callQT (xmrg_q (xmrg_lt _ _)) ?_
      refine go _ ?_
      refine ro_callQT (xmrg_q (xmrg_lt _ _)) ?_
      refine go _ ?_
      refine ro_callQT (xmrg_q (xmrg_lt _ _)) ?_
      refine go _ ?_
      refine ⟨_, ?_, joined (.refl _)⟩
      unfold xhead; rw [if_neg (by omega)]; rfl
  · intro hh f hhd
    refine go _ ?_
    refine ro_addU rfl rfl rfl rfl rfl rfl ?_
    rw [q64_bits, hhd]
    refine go _ ?_
    have hxh : xhead s.xv s.xl < q64 := q64_lt _
    generalize hg1 : xhead s.xv s.xl = h1 at hxh ⊢
    have hr : s.xl % 32 = N % 32 := by rw [hl, q64_eq]; omega
    rw [hr]
    generalize hr0 : N % 32 = r at hb ⊢
    have hr32 : r < 32 := by omega
    refine J_loopL (σ := Option Addr × Nat × Nat × Nat) [0] (fun t => [(3, .int .u64 (xt8 s.xb h1 t.2.2.2)), (4, .int .u64 ((r - 8 * t.2.2.2 : Nat) : Int)), (5, .slice t.1 t.2.1 t.2.2.1)]) (fun t => [(rb, rdB x s)])
      (fun t => View ([(rb, rdB x s)] ++ G) t.1 t.2.1 t.2.2.1 (fun i => s.xb (8 * t.2.2.2 + i)) ∧ t.2.1 = 32 - 8 * t.2.2.2 ∧ 8 * t.2.2.2 ≤ r) (fun t => t.2.1) (some ⟨rb, 50, none⟩, 32, 32, 0) (.refl _) ⟨?_, rfl, by show 8 * 0 ≤ r; omega⟩ ?_
    · exact (xb_view _ rb x s List.mem_cons_self 0 (by decide)).congr fun i hi => by rw [Nat.mul_zero]
    rintro ⟨oa1, n1, cp1, j⟩ f ⟨hv1, hn1, hj1⟩
    dsimp only at hv1 hn1 hj1 ⊢
    have hcp := hv1.le
    refine go _ ?_
    refine J_condP rfl (fun (hg : ((r - 8 * j : Nat) : Int) ≥ 8) => ?_) (fun (hg : ¬ ((r - 8 * j : Nat) : Int) ≥ 8) => ?_)
    · refine go _ ?_
      refine ro_callQT (le64_v hv1 (fun _ => hby _) (by omega)) ?_
      refine go _ ?_
      refine ro_callQT (xrnd_q (V := 0) 0 rfl) ?_
      refine go _ ?_
      refine ro_slV 8 n1 hv1 rfl rfl rfl rfl rfl rfl rfl (by omega) hcp rfl ?_
      refine go _ ?_
      refine ro_xorZ rfl rfl rfl rfl (lt64 (xt8_lt _ hxh _)) (lt64 (xrnd_lt _ _)) rfl ?_
      refine go _ ?_
      refine ro_callQT (rot_q (K := 27) 27 rfl (xor64 (xt8_lt _ hxh _) (xrnd_lt _ _)) (by decide)) ?_
      refine ro_mulU rfl rfl rfl xp1_eq rfl rfl ?_
      rw [q64_bits]
      refine ro_addU rfl rfl rfl xp4_eq rfl rfl ?_
      rw [q64_bits]
      have hst : (rotl (xt8 s.xb h1 j ^^^ xrnd 0 (le8 fun i => s.xb (8 * j + i))) 27 * xp1 % q64 + xp4) % q64 = xt8 s.xb h1 (j + 1) := by rw [xt8]; rfl
      rw [hst]
      refine go _ ?_
      refine ⟨(subA oa1 8 cp1, n1 - 8, cp1 - 8, j + 1), (by show n1 - 8 < n1; omega), ⟨(hv1.sub (l := 8) (h := n1) (by omega) (Nat.le_refl _)).congr fun i hi => ?_, (by show n1 - 8 = 32 - 8 * (j + 1); omega), (by show 8 * (j + 1) ≤ r; omega)⟩, joined (.refl _)⟩
      show s.xb (8 * j + (8 + i)) = s.xb (8 * (j + 1) + i)
      congr 1; omega
    · have hj : j = r / 8 := by omega
      refine go _ ?_
      refine J_joinE (σ := Nat × Option Addr × Nat × Nat) [] (fun t => [(3, .int .u64 t.1), (4, .int .u64 ((r % 4 : Nat) : Int)), (5, .slice t.2.1 t.2.2.1 t.2.2.2)]) (fun t => [(rb, rdB x s)])
        (fun t => t.1 = (if 4 ≤ r % 8 then xs4 (xt8 s.xb h1 (r / 8)) (le4 fun i => s.xb (8 * (r / 8) + i)) else xt8 s.xb h1 (r / 8)) ∧ t.1 < q64 ∧ View ([(rb, rdB x s)] ++ G) t.2.1 t.2.2.1 t.2.2.2 (fun i => s.xb (4 * (r / 4) + i)) ∧ t.2.2.1 = 32 - 4 * (r / 4)) ?_ ?_
      · refine J_condP rfl (fun (hg4 : ((r - 8 * j : Nat) : Int) ≥ 4) => ?_) (fun (hg4 : ¬ ((r - 8 * j : Nat) : Int) ≥ 4) => ?_)
        · refine go _ ?_
          refine ro_callQT (le32_v hv1 (fun _ => hby _) (by omega)) ?_
          have hl4 : le4 (fun i => s.xb (8 * j + i)) < 4294967296 := le4_lt _ fun _ => hby _
          refine ro_convM rfl rfl rfl rfl (lim64 (by omega)) rfl ?_
          refine ro_mulU rfl rfl rfl xp1_eq rfl rfl ?_
          rw [q64_bits]
          refine ro_xorZ rfl rfl rfl rfl (lt64 (xt8_lt _ hxh _)) (lt64 (q64_lt _)) rfl ?_
          refine go _ ?_
          refine ro_slV 4 n1 hv1 rfl rfl rfl rfl rfl rfl rfl (by omega) hcp rfl ?_
          refine go _ ?_
          refine ro_callQT (rot_q (K := 23) 23 rfl (xor64 (xt8_lt _ hxh _) (q64_lt _)) (by decide)) ?_
          refine ro_mulU rfl rfl rfl xp2_eq rfl rfl ?_
          rw [q64_bits]
          refine ro_addU rfl rfl rfl xp3_eq rfl rfl ?_
          rw [q64_bits]
          have hst : (rotl (xt8 s.xb h1 j ^^^ (le4 fun i => s.xb (8 * j + i)) * xp1 % q64) 23 * xp2 % q64 + xp3) % q64 = xs4 (xt8 s.xb h1 j) (le4 fun i => s.xb (8 * j + i)) := rfl
          rw [hst]
          refine go _ ?_
          refine ⟨(xs4 (xt8 s.xb h1 j) (le4 fun i => s.xb (8 * j + i)), subA oa1 4 cp1, n1 - 4, cp1 - 4), ⟨?_, xs4_lt _ _, (hv1.sub (l := 4) (h := n1) (by omega) (Nat.le_refl _)).congr fun i hi => ?_, (by show n1 - 4 = 32 - 4 * (r / 4); omega)⟩, joined (.refl _) ⟨rfl, ?_, rfl, trivial⟩⟩
          · show xs4 (xt8 s.xb h1 j) (le4 fun i => s.xb (8 * j + i)) = _
            rw [if_pos (by omega), hj]
          · show s.xb (8 * j + (4 + i)) = s.xb (4 * (r / 4) + i)
            congr 1; omega
          · show Value.int .u64 ((r - 8 * j - 4 : Nat) : Int) = .int .u64 ((r % 4 : Nat) : Int)
            congr 2; omega
        · refine go _ ?_
          refine ⟨(xt8 s.xb h1 j, oa1, n1, cp1), ⟨?_, xt8_lt _ hxh _, hv1.congr fun i hi => ?_, (by show n1 = 32 - 4 * (r / 4); omega)⟩, joined (.refl _) ⟨rfl, ?_, rfl, trivial⟩⟩
          · show xt8 s.xb h1 j = _
            rw [if_neg (by omega), hj]
          · show _ = s.xb (4 * (r / 4) + i)
            congr 1; omega
          · show Value.int .u64 ((r - 8 * j : Nat) : Int) = .int .u64 ((r % 4 : Nat) : Int)
            congr 2; omega
      · rintro ⟨h2, oa2, n2, cp2⟩ f ⟨hh2, hq2, hv2, hn2⟩
        dsimp only at hh2 hq2 hv2 hn2 ⊢
        clear hv1 hn1 hg hj hcp
        refine go _ ?_
        refine J_loopL (σ := Option Addr × Nat × Nat × Nat) [] (fun t => [(3, .int .u64 (xt1 (fun i => s.xb (4 * (r / 4) + i)) h2 t.2.2.2)), (4, .int .u64 ((r % 4 - t.2.2.2 : Nat) : Int)), (5, .slice t.1 t.2.1 t.2.2.1)]) (fun t => [(rb, rdB x s)])
          (fun t => View ([(rb, rdB x s)] ++ G) t.1 t.2.1 t.2.2.1 (fun i => s.xb (4 * (r / 4) + (t.2.2.2 + i))) ∧ t.2.1 = 32 - 4 * (r / 4) - t.2.2.2 ∧ t.2.2.2 ≤ r % 4) (fun t => t.2.1) (oa2, n2, cp2, 0) (.refl _) ⟨hv2.congr fun i hi => by rw [Nat.zero_add], hn2, Nat.zero_le _⟩ ?_
        clear hv2 hn2 oa2 n2 cp2
        rintro ⟨oa1, n1, cp1, j⟩ f ⟨hv1, hn1, hj1⟩
        dsimp only at hv1 hn1 hj1 ⊢
        have hcp := hv1.le
        refine go _ ?_
        refine J_condP rfl (fun (hg : ((r % 4 - j : Nat) : Int) > 0) => ?_) (fun (hg : ¬ ((r % 4 - j : Nat) : Int) > 0) => ?_)
        · obtain ⟨b0, o0, B0, hoa, hm0, hf0, hg0⟩ : ∃ b o B, oa1 = some ⟨b, o, none⟩ ∧ (b, B) ∈ [(rb, rdB x s)] ++ G ∧ (0 < n1 → o + n1 ≤ B.n) ∧ ∀ i, i < n1 → B.g (o + i) = .int .u8 ((s.xb (4 * (r / 4) + (j + i)) : Nat) : Int) := by
            rcases hv1.is with ⟨_, h, _⟩ | h
            · omega
            · exact h
          have hfn := hf0 (by omega)
          subst hoa
          refine go _ ?_
          refine ro_loadA rfl rfl hm0 (show o0 + 0 < B0.n by omega) (hg0 0 (by omega)) rfl ?_
          have hb8 := hby (4 * (r / 4) + (j + 0))
          refine go _ ?_
          refine ro_mulU rfl rfl rfl xp5_eq rfl rfl ?_
          rw [q64_bits]
          refine ro_xorZ rfl rfl rfl rfl (lt64 (xt1_lt _ hq2 _)) (lt64 (q64_lt _)) rfl ?_
          refine go _ ?_
          refine ro_callQT (rot_q (K := 11) 11 rfl (xor64 (xt1_lt _ hq2 _) (q64_lt _)) (by decide)) ?_
          refine ro_mulU rfl rfl rfl xp1_eq rfl rfl ?_
          rw [q64_bits]
          have hst : rotl (xt1 (fun i => s.xb (4 * (r / 4) + i)) h2 j ^^^ s.xb (4 * (r / 4) + (j + 0)) * xp5 % q64) 11 * xp1 % q64 = xt1 (fun i => s.xb (4 * (r / 4) + i)) h2 (j + 1) := by rw [xt1]; rfl
          rw [hst]
          refine go _ ?_
          refine ⟨(some ⟨b0, o0 + 1, none⟩, n1 - 1, cp1 - 1, j + 1), (by show n1 - 1 < n1; omega), ⟨⟨by show n1 - 1 ≤ cp1 - 1; omega, .inr ⟨b0, o0 + 1, B0, rfl, hm0, fun _ => by show o0 + 1 + (n1 - 1) ≤ _; omega, fun i hi => ?_⟩⟩, (by show n1 - 1 = 32 - 4 * (r / 4) - (j + 1); omega), (by show j + 1 ≤ r % 4; omega)⟩, joined (.refl _)⟩
          have hi' : i < n1 - 1 := hi
          have := hg0 (1 + i) (by omega)
          rw [Nat.add_assoc, this]
          show Value.int .u8 _ = Value.int .u8 ((s.xb (4 * (r / 4) + (j + 1 + i)) : Nat) : Int)
          rw [Nat.add_assoc j 1 i]
        · have hj : j = r % 4 := by omega
          have hh3 := xt1_lt (fun i => s.xb (4 * (r / 4) + i)) hq2 j
          have hval : xt1 (fun i => s.xb (4 * (r / 4) + i)) h2 j = xtail s.xb h1 r := by
            unfold xtail; dsimp only; rw [hj, hh2]
          rw [hval] at hh3 ⊢
          generalize hg3 : xtail s.xb h1 r = h3 at hh3 ⊢
          refine go _ ?_
          refine ro_xorZ rfl rfl rfl rfl (lt64 hh3) (lt64 (Nat.lt_of_le_of_lt (Nat.div_le_self _ _) hh3)) rfl ?_
          refine go _ ?_
          refine ro_mulU rfl rfl rfl xp2_eq rfl rfl ?_
          rw [q64_bits]
          generalize hh4 : (h3 ^^^ h3 / 2 ^ 33) * xp2 % q64 = h4
          have hq4 : h4 < q64 := hh4 ▸ q64_lt _
          refine go _ ?_
          refine ro_xorZ rfl rfl rfl rfl (lt64 hq4) (lt64 (Nat.lt_of_le_of_lt (Nat.div_le_self _ _) hq4)) rfl ?_
          refine go _ ?_
          refine ro_mulU rfl rfl rfl xp3_eq rfl rfl ?_
          rw [q64_bits]
          generalize hh5 : (h4 ^^^ h4 / 2 ^ 29) * xp3 % q64 = h5
          have hq5 : h5 < q64 := hh5 ▸ q64_lt _
          refine go _ ?_
          refine ro_xorZ rfl rfl rfl rfl (lt64 hq5) (lt64 (Nat.lt_of_le_of_lt (Nat.div_le_self _ _) hq5)) rfl ?_
          refine go _ ?_
          refine J_ret ?_
          refine ends_retS [2] ⟨?_, rfl⟩
          show Value.int .u64 ((h5 ^^^ h5 / 2 ^ 32 : Nat) : Int) = _
          have e1 : xhead (xacc T (N / 32)) (N % q64) = h1 := by
            rw [← hg1]; unfold xhead xsum
            rw [ha 0 (by decide), ha 1 (by decide), ha 2 (by decide), ha 3 (by decide), hl]
          have e2 : xtail (fun i => T (32 * (N / 32) + i)) h1 (N % 32) = h3 := by
            rw [← hg3, hr0]; exact (xtail_congr hb).symm
          unfold xdig
          rw [e1, e2]
          unfold xfin
          dsimp only
          rw [hh4, hh5]
end Go.Proofs.YtogmacnlpclgkaaDoor

/-! WALKS 20: the Reader's state, in plain words; what readBlock makes of it. -/
namespace Go.Proofs.YtogmacnlpclgkaaDoor
open Go Go.Eng
attribute [local irreducible] RO J Trip Quiet
set_option maxRecDepth 4000

/-- The kinds of errors that a compressed block may give. -/
def ErrB {G : Mem} (S : Sent G) (e : Value) : Prop := ErrV S .z e ∨ e = S.ueofV
theorem ErrB.form {G : Mem} {S : Sent G} {e : Value} (h : ErrB S e) : ∃ t b o, e = .iface t (.pointer (some ⟨b, o, none⟩)) := by
  rcases h with ⟨b, rfl⟩ | rfl
  · exact ⟨_, _, _, rfl⟩
  · exact ⟨_, _, _, rfl⟩
/-- What only compressed blocks touch. -/
structure RX where
  r1 : Nat
  r2 : Nat
  r3 : Nat
  ht : Value
  hb : Nat
  cb : Value
  lit : Value
  st0 : Value
  st1 : Value
  st2 : Value
  sb0 : Nat
  sb1 : Nat
  sb2 : Nat
  tb0 : Value
  tb1 : Value
  tb2 : Value
  fs : Value
def RS.ext (s : RS) : RX := ⟨s.r1, s.r2, s.r3, s.ht, s.hb, s.cb, s.lit, s.st0, s.st1, s.st2, s.sb0, s.sb1, s.sb2, s.tb0, s.tb1, s.tb2, s.fs⟩

/-- The state of a Reader. -/
structure PS (E : Type) where
  pos : Nat
  saw : Bool
  sum : Bool
  one : Bool
  unk : Bool
  rem : Nat
  S : Nat → Nat
  bl : Nat
  off : Nat
  L : Nat → Nat
  wl : Nat
  wsz : Nat
  XT : Nat → Nat
  XN : Nat
  e : E

def hdr3 (dat : Nat → Nat) (p : Nat) : Nat := dat p + dat (p + 1) * 256 + dat (p + 2) * 65536

section
variable {E : Type} (dat : Nat → Nat) (N : Nat)
/-- Behind a block's bytes, which lie in the buffer. -/
def rdEnd (last : Bool) (p : PS E) : PS E × Bool :=
  if p.unk = false ∧ p.rem < p.bl then (p, false) else
  let p1 : PS E := { p with rem := if p.unk then p.rem else p.rem - p.bl, XT := if p.sum then catF p.XT p.XN p.S else p.XT, XN := if p.sum then p.XN + p.bl else p.XN }
  if last = false then ({ p1 with L := winL p.wsz p.wl p.L p.bl p.S, wl := min p.wsz (p.wl + p.bl) }, true)
  else if p.unk = false ∧ p1.rem ≠ 0 then (p1, false)
  else if p.sum = false then ({ p1 with saw := false }, true)
  else if N - p.pos < 4 then ({ p1 with pos := N }, false)
  else if le4 (fun i => dat (p.pos + i)) = xdig p1.XT p1.XN % 4294967296 then ({ p1 with pos := p.pos + 4, saw := false }, true)
  else ({ p1 with pos := p.pos + 4 }, false)

/-- What readBlock does; cmp: what a compressed block of so many bytes does. -/
def rdBlk (cmp : PS E → Nat → PS E × Bool) (p : PS E) : PS E × Bool :=
  if N - p.pos < 3 then ({ p with pos := N }, false) else
  let h := hdr3 dat p.pos
  let p1 : PS E := { p with pos := p.pos + 3 }
  let size := h / 8
  if 131072 < size ∨ (0 < p.wsz ∧ p.wsz < size) then (p1, false) else
  if h / 2 % 4 = 0 then
    let k := min size (N - p1.pos)
    let p2 : PS E := { p1 with pos := p1.pos + k, S := ov p.S k dat p1.pos, bl := size }
    if k < size then (p2, false) else rdEnd dat N (decide (h % 2 ≠ 0)) p2
  else if h / 2 % 4 = 1 then
    if N - p1.pos < 1 then ({ p1 with bl := size }, false)
    else rdEnd dat N (decide (h % 2 ≠ 0)) { p1 with pos := p1.pos + 1, S := fun i => if i < size then dat p1.pos else p.S i, bl := size }
  else if h / 2 % 4 = 2 then
    let r := cmp p1 size
    if r.2 then rdEnd dat N (decide (h % 2 ≠ 0)) r.1 else r
  else (p1, false)
end

/-- The blocks of a Reader in such a state. -/
def RdM {G : Mem} {S : Sent G} {dat : Nat → Nat} {N : Nat} (src : Source S dat N) {E : Type} (Ext : E → RX → Mem → Prop) (rb : Nat) (p : PS E) (m : Mem) : Prop :=
  ∃ x s q bm wm em, m = (rb, rdB x s) :: (src.mem q ++ (bm ++ (wm ++ em))) ∧ src.ok q ∧ src.pos q = p.pos ∧ s.rv = .iface src.t src.rv ∧ (∀ i, s.scr i < 256) ∧
    (s.saw = p.saw ∧ s.sum = p.sum ∧ s.one = p.one ∧ s.unk = p.unk ∧ s.rem = p.rem ∧ s.off = p.off ∧ s.wsz = p.wsz) ∧ p.rem < q64 ∧ (∀ i, p.S i < 256) ∧ p.bl ≤ 2 ^ 30 ∧ p.wsz ≤ 2 ^ 30 ∧
    BufN s.buf p.bl p.S bm ∧ WinM s.wd p.wsz s.wo p.L p.wl wm ∧ (p.sum = true → XhM s p.XT p.XN) ∧ Ext p.e s.ext em
end Go.Proofs.YtogmacnlpclgkaaDoor

/-! WALKS 21: ReadFull into the buffer. -/
namespace Go.Proofs.YtogmacnlpclgkaaDoor
open Go Go.Eng
attribute [local irreducible] RO J Trip Quiet
set_option maxRecDepth 4000
variable {G : Mem} {S : Sent G} {dat : Nat → Nat} {N : Nat}

theorem atLeast0_t (src : Source S dat N) (m0 : Mem) :
    Trip Tryd.prog G 47 #[.iface src.t src.rv, .slice none 0 0, .int .i64 0] m0 (fun v m => m = m0 ∧ v = fullV S 0 0) := by
  refine Trip_of Tryd.func47 rfl (by show 3 ≤ _; decide) (args := [.iface src.t src.rv, .slice none 0 0, .int .i64 0]) fun c h0 hex => ?_
  refine run _ ?_
  refine J_condP rfl (fun hlt => absurd hlt (by omega)) (fun _ => ?_)
  refine run _ ?_
  refine J_loopS (σ := Unit) (fun _ => [(0, .iface src.t src.rv), (1, .slice none 0 0), (2, .int .i64 0), (6, .int .i64 0), (7, .nilIface)])
    (fun _ => m0) (fun _ => True) (fun _ => 0) () ⟨rfl, rfl, rfl, rfl, rfl, trivial⟩ (.refl _) trivial ?_
  rintro _ f _
  refine run _ ?_
  refine J_condP rfl (fun hg => ?_) (fun hl => absurd hl (by simp))
  refine run _ ?_
  refine J_ret ?_
  exact ends_retS [6, 7] ⟨rfl, (fullV_ok (Nat.le_refl _)).symm⟩
theorem full0_t (src : Source S dat N) (m0 : Mem) :
    Trip Tryd.prog G 36 #[.iface src.t src.rv, .slice none 0 0] m0 (fun v m => m = m0 ∧ v = fullV S 0 0) := by
  refine Trip_of Tryd.func36 rfl (by show 2 ≤ _; decide) (args := [.iface src.t src.rv, .slice none 0 0]) fun c h0 hex => ?_
  refine run _ ?_
  refine ro_callT (atLeast0_t src m0) ?_
  rintro v m ⟨rfl, rfl⟩
  rw [fullV_ok (Nat.le_refl 0)]
  refine runO _ ?_
  refine run _ ?_
  refine J_ret ?_
  exact ends_retS [4, 5] ⟨rfl, rfl⟩

/-- ReadFull into the whole buffer. -/
theorem fullB_t (src : Source S dat N) (q0 : src.σ) (v : Value) (size : Nat) (B : Nat → Nat) (bm : Mem) (hok : src.ok q0) (hb : BufN v size B bm) (hs : size ≤ 2 ^ 30) :
    Trip Tryd.prog G 36 #[.iface src.t src.rv, v] (bm ++ src.mem q0) (fun r m =>
      ∃ q' k bm', src.ok q' ∧ k = min size (N - src.pos q0) ∧ src.pos q' = src.pos q0 + k ∧ BufN v size (ov B k dat (src.pos q0)) bm' ∧ m = bm' ++ src.mem q' ∧ r = fullV S size k) := by
  rcases hb with ⟨rfl, rfl, rfl, hz⟩ | ⟨b, cap, Bk, rfl, rfl, hf, hn, hlc, hg, hz⟩
  · refine (full0_t src _).mono ?_
    rintro r m ⟨rfl, rfl⟩
    exact ⟨q0, 0, [], hok, by omega, rfl, .inl ⟨rfl, rfl, rfl, fun i => by rw [← hz i]; unfold u8f ov; rw [if_neg (by omega)]⟩, rfl, rfl⟩
  · refine (full_t src q0 b 0 size cap Bk hok hf (by omega) hlc (by omega)).mono ?_
    rintro r m ⟨q', k, h1, h2, h3, rfl, rfl⟩
    refine ⟨q', k, [(b, putB Bk 0 k dat (src.pos q0))], h1, h2, h3, .inr ⟨b, cap, _, rfl, rfl, hf, hn, hlc, fun i hi => ?_, fun i hi => ?_⟩, rfl, rfl⟩
    · show blit Bk.g 0 k (byteG dat (src.pos q0)) i = u8f _ i
      unfold u8f ov byteG
      by_cases h : i < k
      · rw [blit_in _ _ _ _ _ (by omega) (by omega), if_pos h, Nat.sub_zero]
      · rw [blit_out _ _ _ _ _ (by omega), if_neg h, hg i hi]; rfl
    · rw [← hz i hi]; unfold u8f ov; rw [if_neg (by omega)]
end Go.Proofs.YtogmacnlpclgkaaDoor
