/-
  WALKS 18: XXH64, update.
-/
import Derived.Test.YtogmacnlpclgkaaDoorW17
namespace Go.Proofs.YtogmacnlpclgkaaDoor
open Go Go.Eng
attribute [local irreducible] RO J Trip Quiet
set_option maxRecDepth 4000
variable {G : Mem}

theorem subA_0 {oa : Option Addr} {cp : Nat} (h : ∀ b o s, oa = some ⟨b, o, s⟩ → True) : subA oa 0 cp = oa := by
  unfold subA
  split
  · rfl
  · unfold sOff; split <;> simp

theorem st_ne {B : Blk} {o i : Nat} {v : Value} (h : i ≠ o) : (B.st o v).g i = B.g i := upd_other _ _ _ _ h
theorem xb_viewS {m : Mem} {rb : Nat} {B : Blk} {b : Nat → Nat} (hB : ∀ i, i < 32 → B.g (50 + i) = .int .u8 (b i)) (hn : B.n = 83) (o : Nat) (ho : o ≤ 32) : View (((rb, B) :: m) ++ G) (some ⟨rb, 50 + o, none⟩) (32 - o) (32 - o) (fun i => b (o + i)) :=
  ⟨Nat.le_refl _, .inr ⟨rb, 50 + o, B, rfl, List.mem_append.2 (.inl List.mem_cons_self), fun _ => by omega, fun i hi => by rw [Nat.add_assoc]; exact hB (o + i) (by omega)⟩⟩

theorem xacc_succ (T : Nat → Nat) (n i : Nat) : xacc T (n + 1) i = xrnd (xacc T n i) (le8 fun j => T (32 * n + (8 * i + j))) := by rw [xacc]
theorem le8_congr {x y : Nat → Nat} (h : ∀ j, j < 8 → x j = y j) : le8 x = le8 y := by
  unfold le8 le4
  dsimp only
  rw [h 0 (by omega), h 1 (by omega), h 2 (by omega), h 3 (by omega), h (0 + 4) (by omega), h (1 + 4) (by omega), h (2 + 4) (by omega), h (3 + 4) (by omega)]

theorem rd_xst4 (x : Int) (s : RS) (l : Nat) (v b : Nat → Nat) (n v0 v1 v2 v3 : Nat) :
    ((((((rdB x (s.wChk l v b n)).st (45 + 1 + 0) (.int .u64 v0)).st (45 + 1 + 1) (.int .u64 v1)).st (45 + 1 + 2) (.int .u64 v2)).st (45 + 1 + 3) (.int .u64 v3)).st (45 + 37) (.int .i64 0)).obj = (rdB x (s.wChk l (fun i => [v0, v1, v2, v3].getD i 0) b 0)).obj := blk_tab rfl rfl rfl rfl
theorem rd_xst4' (x : Int) (s : RS) (l : Nat) (v b : Nat → Nat) (n v0 v1 v2 v3 : Nat) :
    (((((rdB x (s.wChk l v b n)).st (45 + 1 + 0) (.int .u64 v0)).st (45 + 1 + 1) (.int .u64 v1)).st (45 + 1 + 2) (.int .u64 v2)).st (45 + 1 + 3) (.int .u64 v3)).obj = (rdB x (s.wChk l (fun i => [v0, v1, v2, v3].getD i 0) b n)).obj := blk_tab rfl rfl rfl rfl
theorem rd_xst1 (x : Int) (s : RS) (l : Nat) : ((rdB x s).st (45 + 0) (.int .u64 l)).obj = (rdB x (s.wChk l s.xv s.xb s.xc)).obj := blk_tab rfl rfl rfl rfl
theorem xacc_step {T v B : Nat → Nat} {n v0 v1 v2 v3 : Nat} (hV : ∀ i, i < 4 → v i = xacc T n i) (hB : ∀ i, i < 32 → B i = T (32 * n + i))
    (h0 : xrnd (v 0) (le8 fun i => B (0 + i)) = v0) (h1 : xrnd (v 1) (le8 fun i => B (8 + i)) = v1) (h2 : xrnd (v 2) (le8 fun i => B (16 + i)) = v2) (h3 : xrnd (v 3) (le8 fun i => B (24 + i)) = v3) :
    ∀ i, i < 4 → [v0, v1, v2, v3].getD i 0 = xacc T (n + 1) i := by
  have hl : ∀ k, k + 8 ≤ 32 → le8 (fun j => T (32 * n + (k + j))) = le8 fun i => B (k + i) := fun k hk => le8_congr fun j hj => (hB _ (by omega)).symm
  intro i hi
  rw [xacc_succ, ← hV i hi, hl (8 * i) (by omega)]
  match i, hi with
  | 0, _ => exact h0.symm
  | 1, _ => exact h1.symm
  | 2, _ => exact h2.symm
  | 3, _ => exact h3.symm
set_option maxRecDepth 20000 in
set_option maxHeartbeats 1000000 in
theorem xupd_t (rb : Nat) (x : Int) (s : RS) (T S : Nat → Nat) (N bl bcp : Nat) (oa : Option Addr) (bm : Mem) (hx : XhM s T N) (hv : View bm oa bl bcp S) (hS : ∀ i, S i < 256) (hbl : bl ≤ 2 ^ 30) :
    Trip Tryd.prog G 55 #[.pointer (some ⟨rb, 45, none⟩), .slice oa bl bcp] ((rb, rdB x s) :: bm) (fun _ m =>
      ∃ l v b n, XhM (s.wChk l v b n) (catF T N S) (N + bl) ∧ m = (rb, rdB x (s.wChk l v b n)) :: bm) := by
  refine Trip_of Tryd.func55 rfl (by show 2 ≤ _; decide) (args := [.pointer (some ⟨rb, 45, none⟩), .slice oa bl bcp]) fun c h0 hex => ?_
  obtain ⟨hl, ha, hc, hb, hby⟩ := hx
  have hc32 : s.xc < 32 := by omega
  refine go _ ?_
  refine ro_addU rfl rfl rfl rfl rfl rfl ?_
  rw [q64_bits]
  refine go _ ?_
  have hv' : ∀ B : Blk, View ((rb, B) :: bm ++ G) oa bl bcp S := fun B => hv.mono fun p hp => by simp [hp]
  have hdn : (N + bl) / 32 = N / 32 + (N % 32 + bl) / 32 := by omega
  have hxl : (s.xl + bl) % q64 = (N + bl) % q64 := by rw [hl, Nat.mod_add_mod]
  rw [hxl]
  refine J_eqv (.cons (rd_xst1 x s _) (.refl _)) ?_
  refine J_condP rfl (fun (hlt : ((s.xc + bl : Nat) : Int) < 32) => ?_) (fun (hge : ¬ ((s.xc + bl : Nat) : Int) < 32) => ?_)
  · have hlt' : s.xc + bl < 32 := by omega
    refine go _ ?_
    obtain ⟨src, hsrc, hsv⟩ := (hv' _).src
    refine ro_copy (s := 0) rfl rfl rfl rfl hsrc (fun j hj => by rw [hsv j (by omega)]; rfl) .here rfl (by show _ ≤ 83; omega) hex rfl ?_
    have hm : min bl (32 - s.xc) * (0 + 1) = bl := by omega
    rw [hm]
    have he := rd_xput x (s.wChk ((N + bl) % q64) s.xv s.xb s.xc) s.xc bl (by omega) src S hsv
    refine RO_eqv (.cons he (.refl _)) (fun _ h => J_eqv (.cons he (.refl _)) h) ?_
    refine go _ ?_
    refine J_ret ?_
    have hd : (N + bl) / 32 = N / 32 := by omega
    refine ends_retS [] (junk := []) ⟨(N + bl) % q64, s.xv, blitN s.xb s.xc bl S, s.xc + bl, ⟨rfl, fun i hi => ?_, ?_, fun i hi => ?_, fun i => ?_⟩, rfl⟩ rfl (.cons (blk_tab rfl rfl rfl rfl) (by simpa using MEqv.refl _))
    · show s.xv i = _
      rw [ha i hi, hd]
      refine xacc_congr _ (fun j hj => ?_) i hi
      unfold catF; rw [if_pos (by omega)]
    · show s.xc + bl = _
      omega
    · show blitN s.xb s.xc bl S i = _
      rw [hd]
      unfold blitN catF
      by_cases h1 : i < s.xc
      · rw [if_neg (by omega), if_pos (by omega), hb i (by omega)]
      · rw [if_pos (by omega), if_neg (by omega)]; congr 1; omega
    · show blitN s.xb s.xc bl S i < 256
      unfold blitN; split
      · exact hS _
      · exact hby _
  have hge' : 32 ≤ s.xc + bl := by omega
  -- the stripe that was begun
  refine go _ ?_
  refine J_joinE (σ := Option Addr × Nat × Nat × Nat × (Nat → Nat)) [0] (fun t => [(1, .slice t.1 t.2.1 t.2.2.1)]) (fun t => (rb, rdB x (s.wChk ((N + bl) % q64) (xacc (catF T N S) t.2.2.2.1) t.2.2.2.2 0)) :: bm)
    (fun t => View bm t.1 t.2.1 t.2.2.1 (fun i => catF T N S (32 * t.2.2.2.1 + i)) ∧ 32 * t.2.2.2.1 + t.2.1 = N + bl ∧ N ≤ 32 * t.2.2.2.1 ∧ ∀ i, t.2.2.2.2 i < 256) ?_ ?_
  · refine J_condP rfl (fun (hp : ((s.xc : Nat) : Int) > 0) => ?_) (fun (hz : ¬ ((s.xc : Nat) : Int) > 0) => ?_)
    · have hp' : 0 < s.xc := by omega
      refine go _ ?_
      obtain ⟨src, hsrc, hsv⟩ := (hv' _).src
      refine ro_copy (s := 0) rfl rfl rfl rfl hsrc (fun j hj => by rw [hsv j (by omega)]; rfl) .here rfl (by show _ ≤ 83; omega) hex rfl ?_
      have hm : min bl (32 - s.xc) = 32 - s.xc := by omega
      rw [hm, Nat.zero_add, Nat.mul_one]
      have he : _ = (rdB x (s.wChk ((N + bl) % q64) s.xv (blitN s.xb s.xc (32 - s.xc) S) s.xc)).obj := rd_xput x (s.wChk ((N + bl) % q64) s.xv s.xb s.xc) s.xc (32 - s.xc) (by omega) src S (fun j hj => hsv j (by omega))
      refine RO_eqv (.cons he (.refl _)) (fun _ h => J_eqv (.cons he (.refl _)) h) ?_
      have hBv : ∀ i, i < 32 → blitN s.xb s.xc (32 - s.xc) S i = catF T N S (32 * (N / 32) + i) := fun i hi => by
        unfold blitN catF
        by_cases h1 : i < s.xc
        · rw [if_neg (by omega), if_pos (by omega), hb i (by omega)]
        · rw [if_pos (by omega), if_neg (by omega)]; congr 1; omega
      have hBb : ∀ i, blitN s.xb s.xc (32 - s.xc) S i < 256 := fun i => by
        unfold blitN; split
        · exact hS _
        · exact hby _
      generalize blitN s.xb s.xc (32 - s.xc) S = B at hBv hBb ⊢
      refine go _ ?_
      refine ro_slV (32 - s.xc) bl hv rfl rfl rfl rfl rfl rfl rfl (by omega) hv.le rfl ?_
      have q0 : ∀ i, i < 32 → (rdB x (s.wChk ((N + bl) % q64) s.xv B s.xc)).g (50 + i) = .int .u8 (B i) := rd_xb x (s.wChk ((N + bl) % q64) s.xv B s.xc)
      refine go _ ?_
      refine ro_callQT (le64_v (xb_viewS q0 rfl 0 (by decide)) (fun _ => hBb _) (by decide)) ?_
      refine go _ ?_
      refine ro_callQT (xrnd_q _ rfl) ?_
      generalize hv0 : xrnd (s.xv 0) (le8 fun i => B (0 + i)) = v0
      refine go _ ?_
      have q1 := fun i hi => (st_ne (o := 45 + 1 + 0) (v := .int .u64 v0) (show 50 + i ≠ 46 by omega)).trans (q0 i hi)
      refine ro_callQT (le64_v (xb_viewS q1 rfl 8 (by decide)) (fun _ => hBb _) (by decide)) ?_
      refine go _ ?_
      refine ro_callQT (xrnd_q _ rfl) ?_
      generalize hv1 : xrnd (s.xv 1) (le8 fun i => B (8 + i)) = v1
      refine go _ ?_
      have q2 := fun i hi => (st_ne (o := 45 + 1 + 1) (v := .int .u64 v1) (show 50 + i ≠ 47 by omega)).trans (q1 i hi)
      refine ro_callQT (le64_v (xb_viewS q2 rfl 16 (by decide)) (fun _ => hBb _) (by decide)) ?_
      refine go _ ?_
      refine ro_callQT (xrnd_q _ rfl) ?_
      generalize hv2 : xrnd (s.xv 2) (le8 fun i => B (16 + i)) = v2
      refine go _ ?_
      have q3 := fun i hi => (st_ne (o := 45 + 1 + 2) (v := .int .u64 v2) (show 50 + i ≠ 48 by omega)).trans (q2 i hi)
      refine ro_callQT (le64_v (xb_viewS q3 rfl 24 (by decide)) (fun _ => hBb _) (by decide)) ?_
      refine go _ ?_
      refine ro_callQT (xrnd_q _ rfl) ?_
      generalize hv3 : xrnd (s.xv 3) (le8 fun i => B (24 + i)) = v3
      refine go _ ?_
      have hT : ∀ i, i < 4 → xacc T (N / 32) i = xacc (catF T N S) (N / 32) i := fun i hi => xacc_congr _ (fun j hj => by unfold catF; rw [if_pos (by omega)]) i hi
      refine ⟨(subA oa (32 - s.xc) bcp, bl - (32 - s.xc), bcp - (32 - s.xc), N / 32 + 1, B), ⟨?_, ?_, (by show N ≤ 32 * (N / 32 + 1); omega), hBb⟩, joined (.cons ?_ (.refl _))⟩
      · refine (hv.sub (l := 32 - s.xc) (h := bl) (by omega) (Nat.le_refl _)).congr fun i hi => ?_
        show _ = catF T N S (32 * (N / 32 + 1) + i)
        unfold catF; rw [if_neg (by omega)]; congr 1; omega
      · show 32 * (N / 32 + 1) + (bl - (32 - s.xc)) = N + bl
        omega
      · exact (rd_xst4 x s _ _ _ _ _ _ _ _).trans (rd_xv x s _ _ _ _ _ (xacc_step (fun i hi => (ha i hi).trans (hT i hi)) hBv hv0 hv1 hv2 hv3))
    · have h0 : s.xc = 0 := by omega
      refine go _ ?_
      refine ⟨(oa, bl, bcp, N / 32, s.xb), ⟨hv.congr fun i hi => ?_, ?_, (by show N ≤ 32 * (N / 32); omega), hby⟩, joined (.cons ?_ (.refl _))⟩
      · show _ = catF T N S (32 * (N / 32) + i)
        unfold catF; rw [if_neg (by omega)]; congr 1; omega
      · show 32 * (N / 32) + bl = N + bl
        omega
      · rw [h0]
        exact rd_xv x s _ _ _ _ _ fun i hi => (ha i hi).trans (xacc_congr _ (fun j hj => by unfold catF; rw [if_pos (by omega)]) i hi)
  · rintro ⟨oa1, n1, cp1, q1, b1⟩ f ⟨hv1, hn1, hq1, hb1⟩
    dsimp only at hv1 hn1 hq1 hb1 ⊢
    refine go _ ?_
    refine J_loopL (σ := Option Addr × Nat × Nat × Nat) [0] (fun t => [(1, .slice t.1 t.2.1 t.2.2.1)]) (fun t => (rb, rdB x (s.wChk ((N + bl) % q64) (xacc (catF T N S) t.2.2.2) b1 0)) :: bm)
      (fun t => View bm t.1 t.2.1 t.2.2.1 (fun i => catF T N S (32 * t.2.2.2 + i)) ∧ 32 * t.2.2.2 + t.2.1 = N + bl ∧ N ≤ 32 * t.2.2.2) (fun t => t.2.1) (oa1, n1, cp1, q1) (.refl _) ⟨hv1, hn1, hq1⟩ ?_
    clear hv1 hn1 hq1 oa1 n1 cp1 q1
    rintro ⟨oa1, n1, cp1, q1⟩ f ⟨hv1, hn1, hq1⟩
    dsimp only at hv1 hn1 hq1 ⊢
    have hv1' : ∀ B : Blk, View ((rb, B) :: bm ++ G) oa1 n1 cp1 (fun i => catF T N S (32 * q1 + i)) := fun B => hv1.mono fun p hp => by simp [hp]
    have hTb : ∀ i, catF T N S (32 * q1 + i) < 256 := fun i => by unfold catF; rw [if_neg (by omega)]; exact hS _
    refine go _ ?_
    refine J_condP rfl (fun (hg : ((n1 : Nat) : Int) ≥ 32) => ?_) (fun (hg : ¬ ((n1 : Nat) : Int) ≥ 32) => ?_)
    · have hg' : 32 ≤ n1 := by omega
      have hV : ∀ k, k + 8 ≤ n1 → ∀ B : Blk, View ((rb, B) :: bm ++ G) (subA oa1 k cp1) (n1 - k) (cp1 - k) (fun i => catF T N S (32 * q1 + (k + i))) := fun k hk B => (hv1' B).sub (by omega) (Nat.le_refl _)
      have hcp := hv1.le
      refine go _ ?_
      refine ro_callQT (le64_v (hv1' _) hTb (by omega)) ?_
      refine go _ ?_
      refine ro_callQT (xrnd_q _ rfl) ?_
      generalize hw0 : xrnd (xacc (catF T N S) q1 0) (le8 fun i => catF T N S (32 * q1 + i)) = v0
      refine go _ ?_
      refine ro_slV 8 n1 hv1 rfl rfl rfl rfl rfl rfl rfl (by omega) hcp rfl ?_
      refine go _ ?_
      refine ro_callQT (le64_v (hV 8 (by omega) _) (fun i => hTb _) (by omega)) ?_
      refine go _ ?_
      refine ro_callQT (xrnd_q _ rfl) ?_
      generalize hw1 : xrnd (xacc (catF T N S) q1 1) (le8 fun i => catF T N S (32 * q1 + (8 + i))) = v1
      refine go _ ?_
      refine ro_slV 16 n1 hv1 rfl rfl rfl rfl rfl rfl rfl (by omega) hcp rfl ?_
      refine go _ ?_
      refine ro_callQT (le64_v (hV 16 (by omega) _) (fun i => hTb _) (by omega)) ?_
      refine go _ ?_
      refine ro_callQT (xrnd_q _ rfl) ?_
      generalize hw2 : xrnd (xacc (catF T N S) q1 2) (le8 fun i => catF T N S (32 * q1 + (16 + i))) = v2
      refine go _ ?_
      refine ro_slV 24 n1 hv1 rfl rfl rfl rfl rfl rfl rfl (by omega) hcp rfl ?_
      refine go _ ?_
      refine ro_callQT (le64_v (hV 24 (by omega) _) (fun i => hTb _) (by omega)) ?_
      refine go _ ?_
      refine ro_callQT (xrnd_q _ rfl) ?_
      generalize hw3 : xrnd (xacc (catF T N S) q1 3) (le8 fun i => catF T N S (32 * q1 + (24 + i))) = v3
      refine go _ ?_
      refine ro_slV 32 n1 hv1 rfl rfl rfl rfl rfl rfl rfl (by omega) hcp rfl ?_
      refine go _ ?_
      refine ⟨(subA oa1 32 cp1, n1 - 32, cp1 - 32, q1 + 1), (by show n1 - 32 < n1; omega), ⟨(hv1.sub (l := 32) (h := n1) (by omega) (Nat.le_refl _)).congr fun i hi => ?_, (by show 32 * (q1 + 1) + (n1 - 32) = N + bl; omega), (by show N ≤ 32 * (q1 + 1); omega)⟩, joined (.cons ?_ (.refl _))⟩
      · show catF T N S (32 * q1 + (32 + i)) = catF T N S (32 * (q1 + 1) + i)
        congr 1; omega
      · exact (rd_xst4' x s _ _ _ _ _ _ _ _).trans (rd_xv x s _ _ _ _ _ (xacc_step (B := fun i => catF T N S (32 * q1 + i)) (fun i hi => rfl) (fun i hi => rfl) (by simpa only [Nat.zero_add] using hw0) hw1 hw2 hw3))
    · have hq : (N + bl) / 32 = q1 := by omega
      refine go _ ?_
      refine J_condP rfl (fun (hp : ((n1 : Nat) : Int) > 0) => ?_) (fun (hz : ¬ ((n1 : Nat) : Int) > 0) => ?_)
      · refine go _ ?_
        obtain ⟨src, hsrc, hsv⟩ := (hv1' _).src
        refine ro_copy (s := 0) rfl rfl rfl rfl hsrc (fun j hj => by rw [hsv j (by omega)]; rfl) .here rfl (by show 45 + 5 + _ ≤ 83; omega) hex rfl ?_
        have hm : min n1 32 * (0 + 1) = n1 := by omega
        rw [hm]
        have he := rd_xput x (s.wChk ((N + bl) % q64) (xacc (catF T N S) q1) b1 0) 0 n1 (by omega) src _ hsv
        refine RO_eqv (.cons he (.refl _)) (fun _ h => J_eqv (.cons he (.refl _)) h) ?_
        refine go _ ?_
        refine ends_normalS [] (junk := []) ⟨(N + bl) % q64, xacc (catF T N S) q1, blitN b1 0 n1 (fun i => catF T N S (32 * q1 + i)), n1, ⟨rfl, fun i hi => ?_, ?_, fun i hi => ?_, fun i => ?_⟩, rfl⟩ rfl (.cons (blk_tab rfl rfl rfl rfl) (by simpa using MEqv.refl _))
        · rw [hq]
        · show n1 = _
          omega
        · show blitN b1 0 n1 (fun i => catF T N S (32 * q1 + i)) i = _
          rw [hq]
          unfold blitN
          rw [if_pos (by omega), Nat.sub_zero]
        · show blitN b1 0 n1 (fun i => catF T N S (32 * q1 + i)) i < 256
          unfold blitN; split
          · exact hTb _
          · exact hb1 _
      · have h0 : n1 = 0 := by omega
        refine go _ ?_
        refine ends_normalS [] (junk := []) ⟨(N + bl) % q64, xacc (catF T N S) q1, b1, 0, ⟨rfl, fun i hi => ?_, ?_, fun i hi => ?_, hb1⟩, rfl⟩ rfl (by simpa using MEqv.refl _)
        · rw [hq]
        · show 0 = _
          omega
        · omega
end Go.Proofs.YtogmacnlpclgkaaDoor
