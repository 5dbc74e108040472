/-
  TEXTS MERGED: C11.
-/
import Derived.Test.YtogmacnlpclgkaaDoorK28
/-! COMPRESSED BLOCKS 11: four streams of literals. -/
namespace Go.Proofs.YtogmacnlpclgkaaDoor
open Go Go.Eng Go.Pz
attribute [local irreducible] RO J Trip Quiet
set_option maxRecDepth 20000
variable {G : Mem} {d : Nat → Nat}

theorem i64eq {a b : Nat} (h : a = b) : Value.int .i64 ((a : Nat) : Int) = .int .i64 ((b : Nat) : Int) := by rw [h]
/-- n bytes f from place o on. -/
def AtB (g : Nat → Value) (o n : Nat) (f : Nat → Nat) : Prop := ∀ j, j < n → g (o + j) = .int .u8 ((f j : Nat) : Int)
theorem AtB.zero (g : Nat → Value) (o : Nat) (f : Nat → Nat) : AtB g o 0 f := fun _ hj => absurd hj (Nat.not_lt_zero _)
theorem AtB.other {g : Nat → Value} {o n p : Nat} {f : Nat → Nat} {v : Value} (h : AtB g o n f) (hp : p < o ∨ o + n ≤ p) : AtB (upd g p v) o n f := fun j hj => by rw [upd_other _ _ _ _ (by omega)]; exact h j hj
theorem AtB.snoc {g : Nat → Value} {o n p : Nat} {f : Nat → Nat} {v : Value} (h : AtB g o n f) (hp : p = o + n) (hv : v = .int .u8 ((f n : Nat) : Int)) : AtB (upd g p v) o (n + 1) f := fun j hj => by
  by_cases he : j = n
  · subst he; rw [← hp, upd_same]; exact hv
  · rw [upd_other _ _ _ _ (by omega)]; exact h j (by omega)
structure FouS where
  i : Nat
  g : Nat → Value
  k1 : Nat
  B1 : Nat
  k2 : Nat
  B2 : Nat
  k3 : Nat
  B3 : Nat
  k4 : Nat
  B4 : Nat

set_option maxHeartbeats 4000000 in
theorem four_t (S : Sent G) (rb tb : Nat) (x : Int) (s : RS) (da : Option Addr) (n cp : Nat) (hd : ∀ i, d i < 256) (hv : View G da n cp d) (hn : n ≤ 2 ^ 20) (hb : Nat) (ht : Nat → Nat) (hH : HtB hb ht) (off tss K : Nat) (ho2 : 2 ≤ off) (hoc : off + tss ≤ n) (hK : K ≤ 131072) (va : Option Addr) (vc : Nat) (D : Nat → Nat) (sm : Mem) (hl : LtM (.slice va 0 vc) 0 D sm) :
    Trip Tryd.prog G 72 #[.pointer (some ⟨rb, 0, none⟩), .slice da n cp, .int .i64 (off : Nat), .int .i64 (tss : Nat), .int .i64 (K : Nat), .slice va 0 vc] ((rb, rdB x (s.wHuf (.slice (some ⟨tb, 0, none⟩) 2048 2048) hb)) :: (tb, arrB .u16 2048 ht 104) :: sm) (StrR S rb tb x (s.wHuf (.slice (some ⟨tb, 0, none⟩) 2048 2048) hb) ht sm K (lit4 ht hb d n off tss K)) := by
  refine Trip_of Tryd.func72 rfl (by show 6 ≤ _; decide) (args := [.pointer (some ⟨rb, 0, none⟩), .slice da n cp, .int .i64 (off : Nat), .int .i64 (tss : Nat), .int .i64 (K : Nat), .slice va 0 vc]) fun c h0 hex => ?_
  have hcp := hv.le
  have hb1 := hH.b1
  have hb11 := hH.b11
  have hp11 : 2 ^ hb ≤ 2 ^ 11 := Nat.pow_le_pow_right (by omega) hb11
  have hp1 : 1 ≤ 2 ^ hb := Nat.one_le_two_pow
  refine go _ ?_
  refine J_condP rfl (fun hbig => ?_) (fun hsm => ?_)
  · have hL : lit4 ht hb d n off tss K = none := by unfold lit4; rw [if_pos (by omega)]
    rw [hL]
    refine go _ ?_
    refine ro_callT (meof_t S rb x (s.wHuf (.slice (some ⟨tb, 0, none⟩) 2048 2048) hb) _) ?_
    rintro v m ⟨⟨b', rfl⟩, rfl⟩
    refine go _ ?_
    refine J_ret ?_
    exact ends_retS [12, 13] (post := (rb, rdB x (s.wHuf (.slice (some ⟨tb, 0, none⟩) 2048 2048) hb)) :: (tb, arrB .u16 2048 ht 104) :: sm) ⟨_, sm, rfl, ⟨b', rfl⟩, Kp.refl _, rfl⟩
  · refine go _ ?_
    refine J_condP rfl (fun h6 => ?_) (fun h6 => ?_)
    · have hL : lit4 ht hb d n off tss K = none := by unfold lit4; rw [if_neg (by omega), if_pos (by omega)]
      rw [hL]
      refine go _ ?_
      refine ro_callT (merr_t S rb x (s.wHuf (.slice (some ⟨tb, 0, none⟩) 2048 2048) hb) _ _) ?_
      rintro v m ⟨⟨b', rfl⟩, rfl⟩
      refine go _ ?_
      refine J_ret ?_
      exact ends_retS [12, 13] (post := (rb, rdB x (s.wHuf (.slice (some ⟨tb, 0, none⟩) 2048 2048) hb)) :: (tb, arrB .u16 2048 ht 104) :: sm) ⟨_, sm, rfl, ⟨b', rfl⟩, Kp.refl _, rfl⟩
    · obtain ⟨e, he⟩ : ∃ e, e = (K + 3) / 4 := ⟨_, rfl⟩
      refine go _ ?_
      rw [← he]
      refine go _ ?_
      refine J_condP rfl (fun hK3 => ?_) (fun hK3 => ?_)
      · have hL : lit4 ht hb d n off tss K = none := by unfold lit4; rw [if_neg (by omega), if_neg (by omega), if_pos (by omega)]
        rw [hL]
        refine go _ ?_
        refine ro_callT (merr_t S rb x (s.wHuf (.slice (some ⟨tb, 0, none⟩) 2048 2048) hb) _ _) ?_
        rintro v m ⟨⟨b', rfl⟩, rfl⟩
        refine go _ ?_
        refine J_ret ?_
        exact ends_retS [12, 13] (post := (rb, rdB x (s.wHuf (.slice (some ⟨tb, 0, none⟩) 2048 2048) hb)) :: (tb, arrB .u16 2048 ht 104) :: sm) ⟨_, sm, rfl, ⟨b', rfl⟩, Kp.refl _, rfl⟩
      · obtain ⟨s1, hs1⟩ : ∃ s1, s1 = le2 (fun i => d (off + i)) := ⟨_, rfl⟩
        obtain ⟨s2, hs2⟩ : ∃ s2, s2 = le2 (fun i => d (off + 2 + i)) := ⟨_, rfl⟩
        obtain ⟨s3, hs3⟩ : ∃ s3, s3 = le2 (fun i => d (off + 4 + i)) := ⟨_, rfl⟩
        have l2 : ∀ p, le2 (fun i => d (p + i)) < 65536 := fun p => by have := hd (p + 0); have := hd (p + 1); unfold le2; dsimp only; omega
        have b1 : s1 < 65536 := by rw [hs1]; exact l2 _
        have b2 : s2 < 65536 := by rw [hs2]; exact l2 _
        have b3 : s3 < 65536 := by rw [hs3]; exact l2 _
        have hL : lit4 ht hb d n off tss K = if tss - 6 < s1 + s2 + s3 then none else lit4o ht hb d (off + 5) (off + 5 + s1) (off + 5 + s1 + s2) (off + 5 + s1 + s2 + s3) (off + 5 + s1 + s2 + s3 + (tss - 6 - (s1 + s2 + s3))) K := by
          unfold lit4
          rw [if_neg (by omega), if_neg (by omega), if_neg (by omega), hs1, hs2, hs3]
          rfl
        refine go _ ?_
        refine ro_slV off n hv rfl rfl rfl rfl rfl rfl rfl (by omega) (by omega) rfl ?_
        refine go _ ?_
        refine ro_callQT (le16_v ((hv.sub (l := off) (h := n) (by omega) (by omega)).add) (fun i => hd _) (by omega)) ?_
        rw [← hs1]
        refine go _ ?_
        refine ro_slV (off + 2) n hv rfl rfl rfl rfl rfl rfl rfl (by omega) (by omega) rfl ?_
        refine go _ ?_
        refine ro_callQT (le16_v ((hv.sub (l := off + 2) (h := n) (by omega) (by omega)).add) (fun i => hd _) (by omega)) ?_
        rw [← hs2]
        refine go _ ?_
        refine ro_slV (off + 4) n hv rfl rfl rfl rfl rfl rfl rfl (by omega) (by omega) rfl ?_
        refine go _ ?_
        refine ro_callQT (le16_v ((hv.sub (l := off + 4) (h := n) (by omega) (by omega)).add) (fun i => hd _) (by omega)) ?_
        rw [← hs3]
        refine go _ ?_
        refine J_condP rfl (fun htot => ?_) (fun htot => ?_)
        · rw [hL, if_pos (by omega)]
          refine go _ ?_
          refine ro_callT (meof_t S rb x (s.wHuf (.slice (some ⟨tb, 0, none⟩) 2048 2048) hb) _) ?_
          rintro v m ⟨⟨b', rfl⟩, rfl⟩
          refine go _ ?_
          refine J_ret ?_
          exact ends_retS [12, 13] (post := (rb, rdB x (s.wHuf (.slice (some ⟨tb, 0, none⟩) 2048 2048) hb)) :: (tb, arrB .u16 2048 ht 104) :: sm) ⟨_, sm, rfl, ⟨b', rfl⟩, Kp.refl _, rfl⟩
        · rw [if_neg (by omega)] at hL
          rw [hL]
          obtain ⟨b0, z0, rfl⟩ := hv.some (by omega)
          obtain ⟨o0, ho0⟩ : ∃ o0, o0 = off + 5 := ⟨_, rfl⟩
          obtain ⟨o1, ho1⟩ : ∃ o1, o1 = o0 + s1 := ⟨_, rfl⟩
          obtain ⟨o2, ho2⟩ : ∃ o2, o2 = o1 + s2 := ⟨_, rfl⟩
          obtain ⟨o3, ho3⟩ : ∃ o3, o3 = o2 + s3 := ⟨_, rfl⟩
          obtain ⟨o4, ho4⟩ : ∃ o4, o4 = o3 + (tss - 6 - (s1 + s2 + s3)) := ⟨_, rfl⟩
          rw [← ho0, ← ho1, ← ho2, ← ho3, ← ho4]
          obtain ⟨R, hR⟩ : ∃ R, R = lit4o ht hb d o0 o1 o2 o3 o4 K := ⟨_, rfl⟩
          rw [← hR]
          unfold lit4o at hR
          rw [← he] at hR
          have hbd : R = none → ∀ (e : Value) (sm' : Mem), ErrV S .z e → Kp sm sm' → StrR S rb tb x (s.wHuf (.slice (some ⟨tb, 0, none⟩) 2048 2048) hb) ht sm K R (.tuple #[.slice none 0 0, e]) ((rb, rdB x (s.wHuf (.slice (some ⟨tb, 0, none⟩) 2048 2048) hb)) :: (tb, arrB .u16 2048 ht 104) :: sm') := fun h e sm' h1 h2 => by
            rw [h]; exact ⟨e, sm', rfl, h1, h2, rfl⟩
          refine go _ ?_
          rw [show off + 6 - 1 = o0 by omega, ← ho1, ← ho2, ← ho3, ← ho4]
          rw [show o0 + 1 - 2 = o0 - 1 by omega]
          refine ro_callT (mkrv_t S rb x (s.wHuf (.slice (some ⟨tb, 0, none⟩) 2048 2048) hb) _ n cp hd hv hn o1 (o0 - 1) (by omega) (by omega)) ?_
          rintro v m ⟨rfl, hv1⟩
          by_cases hz1 : d o1 = 0
          · rw [if_pos hz1] at hv1
            obtain ⟨e', rfl, ⟨b', rfl⟩⟩ := hv1
            refine go _ ?_
            refine ro_alloc z137 rfl hex fun vb hvb => ?_
            refine go _ ?_
            refine ro_storeAgg (s := 5) (vs := [.pointer none, .slice none 0 0, .int .u32 0, .int .u32 0, .int .u32 0, .int .u32 0]) rfl rfl rfl rfl (fun v hv => by simp only [List.mem_cons, List.not_mem_nil, or_false] at hv; rcases hv with rfl | rfl | rfl | rfl | rfl | rfl <;> rfl) .here (Nat.le_refl 6) rfl hex ?_
            refine go _ ?_
            refine J_ret ?_
            exact ends_retS [12, 13] (post := (rb, rdB x (s.wHuf (.slice (some ⟨tb, 0, none⟩) 2048 2048) hb)) :: (tb, arrB .u16 2048 ht 104) :: sm) (hbd (by rw [hR, if_pos (by simp [hz1])]) _ _ ⟨b', rfl⟩ (Kp.refl _))
          rw [if_neg hz1] at hv1
          subst hv1
          refine go _ ?_
          refine ro_alloc z137 rfl hex fun v1 hvb1 => ?_
          refine go _ ?_
          refine ro_storeAgg (s := 5) (vs := [.pointer (some ⟨rb, 0, none⟩), .slice (some ⟨b0, z0, none⟩) n cp, .int .u32 (o1 : Nat), .int .u32 ((o0 - 1 : Nat) : Int), .int .u32 (d o1 : Nat), .int .u32 (Nat.log2 (d o1) : Nat)]) rfl rfl rfl rfl (fun v hv => by simp only [List.mem_cons, List.not_mem_nil, or_false] at hv; rcases hv with rfl | rfl | rfl | rfl | rfl | rfl <;> rfl) .here (Nat.le_refl 6) rfl hex ?_
          have hq1 := (blk_tab rfl rfl rfl rfl : Blk.obj (⟨6, blit (listB [.pointer none, .slice none 0 0, .int .u32 0, .int .u32 0, .int .u32 0, .int .u32 0] 137).g 0 (5 + 1) (listG [.pointer (some ⟨rb, 0, none⟩), .slice (some ⟨b0, z0, none⟩) n cp, .int .u32 (o1 : Nat), .int .u32 ((o0 - 1 : Nat) : Int), .int .u32 (d o1 : Nat), .int .u32 (Nat.log2 (d o1) : Nat)]), 137, (0, 0)⟩ : Blk) = (rvB rb (some ⟨b0, z0, none⟩) n cp o1 (o0 - 1) (d o1) (Nat.log2 (d o1))).obj)
          refine go _ ?_
          rw [show o1 + 1 - 2 = o1 - 1 by omega]
          refine ro_callT (mkrv_t S rb x (s.wHuf (.slice (some ⟨tb, 0, none⟩) 2048 2048) hb) _ n cp hd hv hn o2 (o1 - 1) (by omega) (by omega)) ?_
          rintro v m ⟨rfl, hv2⟩
          by_cases hz2 : d o2 = 0
          · rw [if_pos hz2] at hv2
            obtain ⟨e', rfl, ⟨b', rfl⟩⟩ := hv2
            refine go _ ?_
            refine ro_alloc z137 rfl hex fun vb hvb => ?_
            refine go _ ?_
            refine ro_storeAgg (s := 5) (vs := [.pointer none, .slice none 0 0, .int .u32 0, .int .u32 0, .int .u32 0, .int .u32 0]) rfl rfl rfl rfl (fun v hv => by simp only [List.mem_cons, List.not_mem_nil, or_false] at hv; rcases hv with rfl | rfl | rfl | rfl | rfl | rfl <;> rfl) .here (Nat.le_refl 6) rfl hex ?_
            refine go _ ?_
            refine J_ret ?_
            exact ends_retS [12, 13] (post := (rb, rdB x (s.wHuf (.slice (some ⟨tb, 0, none⟩) 2048 2048) hb)) :: (tb, arrB .u16 2048 ht 104) :: sm) (hbd (by rw [hR, if_pos (by simp [hz2])]) _ _ ⟨b', rfl⟩ (Kp.refl _))
          rw [if_neg hz2] at hv2
          subst hv2
          refine go _ ?_
          refine ro_alloc z137 rfl hex fun v2 hvb2 => ?_
          refine go _ ?_
          refine ro_storeAgg (s := 5) (vs := [.pointer (some ⟨rb, 0, none⟩), .slice (some ⟨b0, z0, none⟩) n cp, .int .u32 (o2 : Nat), .int .u32 ((o1 - 1 : Nat) : Int), .int .u32 (d o2 : Nat), .int .u32 (Nat.log2 (d o2) : Nat)]) rfl rfl rfl rfl (fun v hv => by simp only [List.mem_cons, List.not_mem_nil, or_false] at hv; rcases hv with rfl | rfl | rfl | rfl | rfl | rfl <;> rfl) .here (Nat.le_refl 6) rfl hex ?_
          have hq2 := (blk_tab rfl rfl rfl rfl : Blk.obj (⟨6, blit (listB [.pointer none, .slice none 0 0, .int .u32 0, .int .u32 0, .int .u32 0, .int .u32 0] 137).g 0 (5 + 1) (listG [.pointer (some ⟨rb, 0, none⟩), .slice (some ⟨b0, z0, none⟩) n cp, .int .u32 (o2 : Nat), .int .u32 ((o1 - 1 : Nat) : Int), .int .u32 (d o2 : Nat), .int .u32 (Nat.log2 (d o2) : Nat)]), 137, (0, 0)⟩ : Blk) = (rvB rb (some ⟨b0, z0, none⟩) n cp o2 (o1 - 1) (d o2) (Nat.log2 (d o2))).obj)
          refine go _ ?_
          rw [show o2 + 1 - 2 = o2 - 1 by omega]
          refine ro_callT (mkrv_t S rb x (s.wHuf (.slice (some ⟨tb, 0, none⟩) 2048 2048) hb) _ n cp hd hv hn o3 (o2 - 1) (by omega) (by omega)) ?_
          rintro v m ⟨rfl, hv3⟩
          by_cases hz3 : d o3 = 0
          · rw [if_pos hz3] at hv3
            obtain ⟨e', rfl, ⟨b', rfl⟩⟩ := hv3
            refine go _ ?_
            refine ro_alloc z137 rfl hex fun vb hvb => ?_
            refine go _ ?_
            refine ro_storeAgg (s := 5) (vs := [.pointer none, .slice none 0 0, .int .u32 0, .int .u32 0, .int .u32 0, .int .u32 0]) rfl rfl rfl rfl (fun v hv => by simp only [List.mem_cons, List.not_mem_nil, or_false] at hv; rcases hv with rfl | rfl | rfl | rfl | rfl | rfl <;> rfl) .here (Nat.le_refl 6) rfl hex ?_
            refine go _ ?_
            refine J_ret ?_
            exact ends_retS [12, 13] (post := (rb, rdB x (s.wHuf (.slice (some ⟨tb, 0, none⟩) 2048 2048) hb)) :: (tb, arrB .u16 2048 ht 104) :: sm) (hbd (by rw [hR, if_pos (by simp [hz3])]) _ _ ⟨b', rfl⟩ (Kp.refl _))
          rw [if_neg hz3] at hv3
          subst hv3
          refine go _ ?_
          refine ro_alloc z137 rfl hex fun v3 hvb3 => ?_
          refine go _ ?_
          refine ro_storeAgg (s := 5) (vs := [.pointer (some ⟨rb, 0, none⟩), .slice (some ⟨b0, z0, none⟩) n cp, .int .u32 (o3 : Nat), .int .u32 ((o2 - 1 : Nat) : Int), .int .u32 (d o3 : Nat), .int .u32 (Nat.log2 (d o3) : Nat)]) rfl rfl rfl rfl (fun v hv => by simp only [List.mem_cons, List.not_mem_nil, or_false] at hv; rcases hv with rfl | rfl | rfl | rfl | rfl | rfl <;> rfl) .here (Nat.le_refl 6) rfl hex ?_
          have hq3 := (blk_tab rfl rfl rfl rfl : Blk.obj (⟨6, blit (listB [.pointer none, .slice none 0 0, .int .u32 0, .int .u32 0, .int .u32 0, .int .u32 0] 137).g 0 (5 + 1) (listG [.pointer (some ⟨rb, 0, none⟩), .slice (some ⟨b0, z0, none⟩) n cp, .int .u32 (o3 : Nat), .int .u32 ((o2 - 1 : Nat) : Int), .int .u32 (d o3 : Nat), .int .u32 (Nat.log2 (d o3) : Nat)]), 137, (0, 0)⟩ : Blk) = (rvB rb (some ⟨b0, z0, none⟩) n cp o3 (o2 - 1) (d o3) (Nat.log2 (d o3))).obj)
          refine go _ ?_
          rw [show o3 + 1 - 2 = o3 - 1 by omega]
          refine ro_callT (mkrv_t S rb x (s.wHuf (.slice (some ⟨tb, 0, none⟩) 2048 2048) hb) _ n cp hd hv hn o4 (o3 - 1) (by omega) (by omega)) ?_
          rintro v m ⟨rfl, hv4⟩
          by_cases hz4 : d o4 = 0
          · rw [if_pos hz4] at hv4
            obtain ⟨e', rfl, ⟨b', rfl⟩⟩ := hv4
            refine go _ ?_
            refine ro_alloc z137 rfl hex fun vb hvb => ?_
            refine go _ ?_
            refine ro_storeAgg (s := 5) (vs := [.pointer none, .slice none 0 0, .int .u32 0, .int .u32 0, .int .u32 0, .int .u32 0]) rfl rfl rfl rfl (fun v hv => by simp only [List.mem_cons, List.not_mem_nil, or_false] at hv; rcases hv with rfl | rfl | rfl | rfl | rfl | rfl <;> rfl) .here (Nat.le_refl 6) rfl hex ?_
            refine go _ ?_
            refine J_ret ?_
            exact ends_retS [12, 13] (post := (rb, rdB x (s.wHuf (.slice (some ⟨tb, 0, none⟩) 2048 2048) hb)) :: (tb, arrB .u16 2048 ht 104) :: sm) (hbd (by rw [hR, if_pos (by simp [hz4])]) _ _ ⟨b', rfl⟩ (Kp.refl _))
          rw [if_neg hz4] at hv4
          subst hv4
          refine go _ ?_
          refine ro_alloc z137 rfl hex fun v4 hvb4 => ?_
          refine go _ ?_
          refine ro_storeAgg (s := 5) (vs := [.pointer (some ⟨rb, 0, none⟩), .slice (some ⟨b0, z0, none⟩) n cp, .int .u32 (o4 : Nat), .int .u32 ((o3 - 1 : Nat) : Int), .int .u32 (d o4 : Nat), .int .u32 (Nat.log2 (d o4) : Nat)]) rfl rfl rfl rfl (fun v hv => by simp only [List.mem_cons, List.not_mem_nil, or_false] at hv; rcases hv with rfl | rfl | rfl | rfl | rfl | rfl <;> rfl) .here (Nat.le_refl 6) rfl hex ?_
          have hq4 := (blk_tab rfl rfl rfl rfl : Blk.obj (⟨6, blit (listB [.pointer none, .slice none 0 0, .int .u32 0, .int .u32 0, .int .u32 0, .int .u32 0] 137).g 0 (5 + 1) (listG [.pointer (some ⟨rb, 0, none⟩), .slice (some ⟨b0, z0, none⟩) n cp, .int .u32 (o4 : Nat), .int .u32 ((o3 - 1 : Nat) : Int), .int .u32 (d o4 : Nat), .int .u32 (Nat.log2 (d o4) : Nat)]), 137, (0, 0)⟩ : Blk) = (rvB rb (some ⟨b0, z0, none⟩) n cp o4 (o3 - 1) (d o4) (Nat.log2 (d o4))).obj)
          refine go _ ?_
          refine ro_appLZ (sm := sm) (fm := [_, _, _, _, _, _]) rfl rfl rfl rfl z5 (by decide) rfl rfl hl (List.perm_append_comm (l₁ := [_, _, _, _, _, _]) (l₂ := sm)) rfl (by omega) hex rfl ?_
          intro v' sm' jk' hv' hk'
          have hK0 : R = if hok ht hb d (o0 - 1) (rvA d o1) e ∧ hok ht hb d (o1 - 1) (rvA d o2) e ∧ hok ht hb d (o2 - 1) (rvA d o3) e ∧ hok ht hb d (o3 - 1) (rvA d o4) (K - e * 3) then
              some fun i => if i < e then hsy ht hb d (rvA d o1) i
                else if i < e + e then hsy ht hb d (rvA d o2) (i - e)
                else if i < e + e + e then hsy ht hb d (rvA d o3) (i - (e + e))
                else hsy ht hb d (rvA d o4) (i - (e + e + e))
            else none := by rw [hR, if_neg (by simp [hz1, hz2, hz3, hz4])]
          clear hR
          rcases hv' with ⟨rfl, rfl, rfl⟩ | ⟨ob, oc, OB, rfl, rfl, hof, hon, hol, hog⟩
          · have he0 : e = 0 := by omega
            subst he0
            refine go _ ?_
            refine ro_alloc z79 rfl hex fun c3 hc3 => ?_
            refine go _ ?_
            refine ro_alloc z40 rfl hex fun c1 hc1 => ?_
            refine go _ ?_
            refine ro_alloc z40 rfl hex fun c2 hc2 => ?_
            refine go _ ?_
            refine J_loopL (σ := Unit) [5, 14] (fun _ => [(41, .int .i64 0)]) (fun _ => _) (fun _ => True) (fun _ => 0) () (.refl _) trivial ?_
            rintro _ f _
            refine go _ ?_
            refine J_condP rfl (fun h => absurd h (by omega)) (fun _ => ?_)
            refine go _ ?_
            refine J_ret ?_
            rw [if_pos ⟨fun i hi => absurd hi (by omega), fun i hi => absurd hi (by omega), fun i hi => absurd hi (by omega), fun i hi => absurd hi (by omega)⟩] at hK0
            refine ends_retS [12, 13] (post := (rb, rdB x (s.wHuf (.slice (some ⟨tb, 0, none⟩) 2048 2048) hb)) :: (tb, arrB .u16 2048 ht 104) :: ([] ++ jk')) ?_
            rw [hK0]
            exact ⟨_, [], jk', rfl, .inl ⟨rfl, rfl, rfl⟩, hk', rfl⟩
          · refine go _ ?_
            refine ro_alloc z79 rfl hex fun c3 hc3 => ?_
            refine go _ ?_
            refine ro_alloc z40 rfl hex fun c1 hc1 => ?_
            refine go _ ?_
            refine ro_alloc z40 rfl hex fun c2 hc2 => ?_
            refine go _ ?_
            obtain ⟨e4, he4⟩ : ∃ e4, e4 = K - e * 3 := ⟨_, rfl⟩
            rw [← he4, show 1 * 2 ^ hb = 2 ^ hb from Nat.one_mul _]
            rw [← he4] at hK0
            have hkg : ∀ g, Kp sm ((ob, (⟨OB.n, g, OB.T, (0, 0)⟩ : Blk)) :: jk') := fun g => hk'.trans fun b1 B1 h1 => by
              rcases List.mem_cons.1 h1 with h | h
              · obtain ⟨rfl, rfl⟩ := Prod.mk.inj h; exact ⟨_, List.mem_cons_self, rfl, hof.symm⟩
              · exact ⟨B1, List.mem_cons_of_mem _ h, rfl, rfl⟩
            have hal : ∀ o, o < n → d o ≠ 0 → rvA d o ≤ 8 * n + 7 := fun o h1 h2 => by have := (Nat.log2_lt (k := 8) h2).2 (hd o); unfold rvA; omega
            have hxb : ∀ y, hent ht hb d y % 256 ≤ hb ∧ hent ht hb d y / 256 < 256 := fun y => ⟨hH.le _ (bitsAt_lt d hb _), hH.sym _ (bitsAt_lt d hb _)⟩
            refine J_eqv (m' := (ob, ⟨OB.n, OB.g, OB.T, (0, 0)⟩) :: (v1, rvB rb (some ⟨b0, z0, none⟩) n cp o1 (o0 - 1) (d o1) (Nat.log2 (d o1))) :: (v2, rvB rb (some ⟨b0, z0, none⟩) n cp o2 (o1 - 1) (d o2) (Nat.log2 (d o2))) :: (v3, rvB rb (some ⟨b0, z0, none⟩) n cp o3 (o2 - 1) (d o3) (Nat.log2 (d o3))) :: (v4, rvB rb (some ⟨b0, z0, none⟩) n cp o4 (o3 - 1) (d o4) (Nat.log2 (d o4))) :: (rb, rdB x (s.wHuf (.slice (some ⟨tb, 0, none⟩) 2048 2048) hb)) :: (c1, listB [.int .u32 (hb : Nat)] 40) :: (c2, listB [.int .u32 ((2 ^ hb - 1 : Nat) : Int)] 40) :: (c3, listB [.slice (some ⟨tb, 0, none⟩) 2048 2048] 79) :: (tb, arrB .u16 2048 ht 104) :: jk') ?_ ?_
            · exact MEqv.trans (show MEqv _ ([(v1, _), (v2, _), (v3, _), (v4, _), (rb, _), (c1, _), (c2, _), (c3, _), (tb, _)] ++ ((ob, OB) :: jk')) from by first | exact MEqv.refl _ | (apply SelE.eqv; repeat (first | exact .nil | exact .all | exact .allN | exact .pref | exact .suf | (apply SelE.cons; (first | exact .here (by first | with_reducible rfl | exact blk_tab rfl rfl rfl rfl | exact rfl) | exact .there (.here (by first | with_reducible rfl | exact blk_tab rfl rfl rfl rfl | exact rfl)) | exact .there (.there (.here (by first | with_reducible rfl | exact blk_tab rfl rfl rfl rfl | exact rfl))) | exact .there (.there (.there (.here (by first | with_reducible rfl | exact blk_tab rfl rfl rfl rfl | exact rfl)))) | exact .there (.there (.there (.there (.here (by first | with_reducible rfl | exact blk_tab rfl rfl rfl rfl | exact rfl))))) | exact .there (.there (.there (.there (.there (.here (by first | with_reducible rfl | exact blk_tab rfl rfl rfl rfl | exact rfl)))))) | exact .there (.there (.there (.there (.there (.there (.here (by first | with_reducible rfl | exact blk_tab rfl rfl rfl rfl | exact rfl))))))) | exact .there (.there (.there (.there (.there (.there (.there (.here (by first | with_reducible rfl | exact blk_tab rfl rfl rfl rfl | exact rfl)))))))) | exact .there (.there (.there (.there (.there (.there (.there (.there (.here (by first | with_reducible rfl | exact blk_tab rfl rfl rfl rfl | exact rfl))))))))))) | apply SelE.skip))) (MEqv.trans (.of_perm List.perm_middle) (.cons (by unfold Blk.obj; rw [hof]; rfl) (.refl _)))
            rw [rvH_init (hb := hb) (ht := ht) hd hz1, rvH_init (hb := hb) (ht := ht) hd hz2, rvH_init (hb := hb) (ht := ht) hd hz3, rvH_init (hb := hb) (ht := ht) hd hz4]
            refine J_loopL (σ := FouS) (vals := []) [] (fun t => [(5, .slice (some ⟨ob, 0, none⟩) K oc), (14, .int .i64 (e : Nat)), (28, .pointer (some ⟨v1, 0, none⟩)), (30, .pointer (some ⟨v2, 0, none⟩)), (31, .pointer (some ⟨v3, 0, none⟩)), (32, .pointer (some ⟨v4, 0, none⟩)), (37, .int .i64 (e4 : Nat)), (38, .pointer (some ⟨c3, 0, none⟩)), (39, .pointer (some ⟨c1, 0, none⟩)), (40, .pointer (some ⟨c2, 0, none⟩)), (33, .int .i64 (t.i : Nat)), (34, .int .i64 ((e + t.i : Nat) : Int)), (35, .int .i64 ((e + e + t.i : Nat) : Int)), (36, .int .i64 ((e + e + e + min t.i e4 : Nat) : Int)), (41, .int .i64 (t.i : Nat))])
              (fun t => (ob, ⟨OB.n, t.g, OB.T, (0, 0)⟩) :: (v1, rvH rb (some ⟨b0, z0, none⟩) n cp d ht hb (o0 - 1) (rvA d o1) t.i t.k1 t.B1) :: (v2, rvH rb (some ⟨b0, z0, none⟩) n cp d ht hb (o1 - 1) (rvA d o2) t.i t.k2 t.B2) :: (v3, rvH rb (some ⟨b0, z0, none⟩) n cp d ht hb (o2 - 1) (rvA d o3) t.i t.k3 t.B3) :: (v4, rvH rb (some ⟨b0, z0, none⟩) n cp d ht hb (o3 - 1) (rvA d o4) (min t.i e4) t.k4 t.B4) :: (rb, rdB x (s.wHuf (.slice (some ⟨tb, 0, none⟩) 2048 2048) hb)) :: (c1, listB [.int .u32 (hb : Nat)] 40) :: (c2, listB [.int .u32 ((2 ^ hb - 1 : Nat) : Int)] 40) :: (c3, listB [.slice (some ⟨tb, 0, none⟩) 2048 2048] 79) :: (tb, arrB .u16 2048 ht 104) :: jk')
              (fun t => t.i ≤ e ∧ RvI d n ht hb (o0 - 1) (rvA d o1) t.i t.k1 t.B1 ∧ RvI d n ht hb (o1 - 1) (rvA d o2) t.i t.k2 t.B2 ∧ RvI d n ht hb (o2 - 1) (rvA d o3) t.i t.k3 t.B3 ∧ RvI d n ht hb (o3 - 1) (rvA d o4) (min t.i e4) t.k4 t.B4 ∧
                AtB t.g 0 t.i (hsy ht hb d (rvA d o1)) ∧ AtB t.g e t.i (hsy ht hb d (rvA d o2)) ∧ AtB t.g (e + e) t.i (hsy ht hb d (rvA d o3)) ∧ AtB t.g (e + e + e) (min t.i e4) (hsy ht hb d (rvA d o4))) (fun t => e - t.i)
              ⟨0, OB.g, rvA d o1 % 8, d o1, rvA d o2 % 8, d o2, rvA d o3 % 8, d o3, rvA d o4 % 8, d o4⟩ (hf := ⟨rfl, rfl, rfl, rfl, rfl, rfl, rfl, rfl, rfl, rfl, rfl, i64eq (by simp), i64eq (by simp), i64eq (by simp), rfl, trivial⟩) ?_ ⟨Nat.zero_le _, RvI.init hd hz1 (by omega) (by omega), RvI.init hd hz2 (by omega) (by omega), RvI.init hd hz3 (by omega) (by omega), ?_, AtB.zero _ _ _, AtB.zero _ _ _, AtB.zero _ _ _, ?_⟩ ?_
            · dsimp only; rw [Nat.zero_min]; exact .refl _
            · dsimp only; rw [Nat.zero_min]; exact RvI.init hd hz4 (by omega) (by omega)
            · dsimp only; rw [Nat.zero_min]; exact AtB.zero _ _ _
            rintro ⟨i, g, k1, B1, k2, B2, k3, B3, k4, B4⟩ f ⟨hi, r1, r2, r3, r4, a1, a2, a3, a4⟩
            dsimp only at hi r1 r2 r3 r4 a1 a2 a3 a4 ⊢
            refine go _ ?_
            refine J_condP rfl (fun hlt => ?_) (fun hge => ?_)
            · refine go _ ?_
              refine ro_makeFunc (toArray_map (l := []) (vs := []) rfl) (toArray_map (vs := [.pointer (some ⟨c1, 0, none⟩), .pointer (some ⟨c2, 0, none⟩), .pointer (some ⟨c3, 0, none⟩)]) rfl) rfl ?_
              refine go _ ?_
              refine ro_callVT (fh_t S v1 rb tb c1 c2 c3 x (s.wHuf (.slice (some ⟨tb, 0, none⟩) 2048 2048) hb) _ n cp hd hv hn hb ht hH (o0 - 1) (rvA d o1) i k1 B1 (by omega) (hal _ (by omega) hz1) r1) ?_
              rintro v m (⟨p1, rfl, k1', B1', q1, r1', rfl⟩ | ⟨p1, ⟨e', rfl, ⟨b', rfl⟩⟩, B1', rfl⟩)
              rotate_left
              · refine go _ ?_
                refine J_ret ?_
                exact ends_retS [12, 13] (post := (rb, rdB x (s.wHuf (.slice (some ⟨tb, 0, none⟩) 2048 2048) hb)) :: (tb, arrB .u16 2048 ht 104) :: ((ob, ⟨OB.n, g, OB.T, (0, 0)⟩) :: jk')) (hbd (by rw [hK0, if_neg (fun h => p1 fun j hj => h.1 j (by omega))]) _ _ ⟨b', rfl⟩ (hkg g))
              obtain ⟨x1, hx1⟩ : ∃ x, x = hent ht hb d (hpl ht hb d (rvA d o1) i) := ⟨_, rfl⟩
              obtain ⟨xl1, xs1⟩ := hxb (hpl ht hb d (rvA d o1) i)
              rw [← hx1] at xl1 xs1 ⊢
              have kk1 := r1'.k7
              refine go _ ?_
              refine ro_callVT (fh_t S v2 rb tb c1 c2 c3 x (s.wHuf (.slice (some ⟨tb, 0, none⟩) 2048 2048) hb) _ n cp hd hv hn hb ht hH (o1 - 1) (rvA d o2) i k2 B2 (by omega) (hal _ (by omega) hz2) r2) ?_
              rintro v m (⟨p2, rfl, k2', B2', q2, r2', rfl⟩ | ⟨p2, ⟨e', rfl, ⟨b', rfl⟩⟩, B2', rfl⟩)
              rotate_left
              · refine go _ ?_
                refine J_ret ?_
                exact ends_retS [12, 13] (post := (rb, rdB x (s.wHuf (.slice (some ⟨tb, 0, none⟩) 2048 2048) hb)) :: (tb, arrB .u16 2048 ht 104) :: ((ob, ⟨OB.n, g, OB.T, (0, 0)⟩) :: jk')) (hbd (by rw [hK0, if_neg (fun h => p2 fun j hj => h.2.1 j (by omega))]) _ _ ⟨b', rfl⟩ (hkg g))
              obtain ⟨x2, hx2⟩ : ∃ x, x = hent ht hb d (hpl ht hb d (rvA d o2) i) := ⟨_, rfl⟩
              obtain ⟨xl2, xs2⟩ := hxb (hpl ht hb d (rvA d o2) i)
              rw [← hx2] at xl2 xs2 ⊢
              have kk2 := r2'.k7
              refine go _ ?_
              refine ro_callVT (fh_t S v3 rb tb c1 c2 c3 x (s.wHuf (.slice (some ⟨tb, 0, none⟩) 2048 2048) hb) _ n cp hd hv hn hb ht hH (o2 - 1) (rvA d o3) i k3 B3 (by omega) (hal _ (by omega) hz3) r3) ?_
              rintro v m (⟨p3, rfl, k3', B3', q3, r3', rfl⟩ | ⟨p3, ⟨e', rfl, ⟨b', rfl⟩⟩, B3', rfl⟩)
              rotate_left
              · refine go _ ?_
                refine J_ret ?_
                exact ends_retS [12, 13] (post := (rb, rdB x (s.wHuf (.slice (some ⟨tb, 0, none⟩) 2048 2048) hb)) :: (tb, arrB .u16 2048 ht 104) :: ((ob, ⟨OB.n, g, OB.T, (0, 0)⟩) :: jk')) (hbd (by rw [hK0, if_neg (fun h => p3 fun j hj => h.2.2.1 j (by omega))]) _ _ ⟨b', rfl⟩ (hkg g))
              obtain ⟨x3, hx3⟩ : ∃ x, x = hent ht hb d (hpl ht hb d (rvA d o3) i) := ⟨_, rfl⟩
              obtain ⟨xl3, xs3⟩ := hxb (hpl ht hb d (rvA d o3) i)
              rw [← hx3] at xl3 xs3 ⊢
              have kk3 := r3'.k7
              refine go _ ?_
              refine J_joinE (σ := (Nat → Value) × Nat × Nat) [5, 14, 28, 30, 31, 32, 33, 34, 35, 37, 38, 39, 40, 41, 44, 46, 47] (fun t => [(36, .int .i64 ((e + e + e + min (i + 1) e4 : Nat) : Int))]) (fun t => (ob, ⟨OB.n, t.1, OB.T, (0, 0)⟩) :: (v1, rvH rb (some ⟨b0, z0, none⟩) n cp d ht hb (o0 - 1) (rvA d o1) i k1' B1') :: (v2, rvH rb (some ⟨b0, z0, none⟩) n cp d ht hb (o1 - 1) (rvA d o2) i k2' B2') :: (v3, rvH rb (some ⟨b0, z0, none⟩) n cp d ht hb (o2 - 1) (rvA d o3) i k3' B3') :: (v4, rvH rb (some ⟨b0, z0, none⟩) n cp d ht hb (o3 - 1) (rvA d o4) (min (i + 1) e4) t.2.1 t.2.2) :: (rb, rdB x (s.wHuf (.slice (some ⟨tb, 0, none⟩) 2048 2048) hb)) :: (c1, listB [.int .u32 (hb : Nat)] 40) :: (c2, listB [.int .u32 ((2 ^ hb - 1 : Nat) : Int)] 40) :: (c3, listB [.slice (some ⟨tb, 0, none⟩) 2048 2048] 79) :: (tb, arrB .u16 2048 ht 104) :: jk')
                (fun t => RvI d n ht hb (o3 - 1) (rvA d o4) (min (i + 1) e4) t.2.1 t.2.2 ∧ AtB t.1 0 i (hsy ht hb d (rvA d o1)) ∧ AtB t.1 e i (hsy ht hb d (rvA d o2)) ∧ AtB t.1 (e + e) i (hsy ht hb d (rvA d o3)) ∧ AtB t.1 (e + e + e) (min (i + 1) e4) (hsy ht hb d (rvA d o4))) ?_ ?_
              · refine J_condP rfl (fun hu => ?_) (fun hu => ?_)
                · have hm : min i e4 = i := by omega
                  have hm1 : min (i + 1) e4 = i + 1 := by omega
                  rw [hm] at r4 a4 ⊢
                  rw [hm1]
                  refine J_eqv (m' := [(ob, _), (v4, _), (v1, _), (v2, _), (v3, _), (rb, _), (c1, _), (c2, _), (c3, _), (tb, _)] ++ jk') (by first | exact MEqv.refl _ | (apply SelE.eqv; repeat (first | exact .nil | exact .all | exact .allN | exact .pref | exact .suf | (apply SelE.cons; (first | exact .here (by first | with_reducible rfl | exact blk_tab rfl rfl rfl rfl | exact rfl) | exact .there (.here (by first | with_reducible rfl | exact blk_tab rfl rfl rfl rfl | exact rfl)) | exact .there (.there (.here (by first | with_reducible rfl | exact blk_tab rfl rfl rfl rfl | exact rfl))) | exact .there (.there (.there (.here (by first | with_reducible rfl | exact blk_tab rfl rfl rfl rfl | exact rfl)))) | exact .there (.there (.there (.there (.here (by first | with_reducible rfl | exact blk_tab rfl rfl rfl rfl | exact rfl))))) | exact .there (.there (.there (.there (.there (.here (by first | with_reducible rfl | exact blk_tab rfl rfl rfl rfl | exact rfl)))))) | exact .there (.there (.there (.there (.there (.there (.here (by first | with_reducible rfl | exact blk_tab rfl rfl rfl rfl | exact rfl))))))) | exact .there (.there (.there (.there (.there (.there (.there (.here (by first | with_reducible rfl | exact blk_tab rfl rfl rfl rfl | exact rfl)))))))) | exact .there (.there (.there (.there (.there (.there (.there (.there (.here (by first | with_reducible rfl | exact blk_tab rfl rfl rfl rfl | exact rfl))))))))))) | apply SelE.skip))) ?_
                  refine go _ ?_
                  refine ro_callVT (fh_t S v4 rb tb c1 c2 c3 x (s.wHuf (.slice (some ⟨tb, 0, none⟩) 2048 2048) hb) _ n cp hd hv hn hb ht hH (o3 - 1) (rvA d o4) i k4 B4 (by omega) (hal _ (by omega) hz4) r4) ?_
                  rintro v m (⟨p4, rfl, k4', B4', q4, r4', rfl⟩ | ⟨p4, ⟨e', rfl, ⟨b', rfl⟩⟩, B4', rfl⟩)
                  rotate_left
                  · refine go _ ?_
                    refine J_ret ?_
                    exact ends_retS [12, 13] (post := (rb, rdB x (s.wHuf (.slice (some ⟨tb, 0, none⟩) 2048 2048) hb)) :: (tb, arrB .u16 2048 ht 104) :: ((ob, ⟨OB.n, g, OB.T, (0, 0)⟩) :: jk')) (hbd (by rw [hK0, if_neg (fun h => p4 fun j hj => h.2.2.2 j (by omega))]) _ _ ⟨b', rfl⟩ (hkg g))
                  obtain ⟨x4, hx4⟩ : ∃ x, x = hent ht hb d (hpl ht hb d (rvA d o4) i) := ⟨_, rfl⟩
                  obtain ⟨xl4, xs4⟩ := hxb (hpl ht hb d (rvA d o4) i)
                  rw [← hx4] at xl4 xs4 ⊢
                  have kk4 := r4'.k7
                  refine go _ ?_
                  refine ro_storeI rfl rfl rfl rfl (.there (.there (.there (.there (.there (.there .here)))))) (by show _ < OB.n; omega) rfl hex ?_
                  refine go _ ?_
                  refine ⟨(upd g (0 + (e + e + e + i)) (.int .u8 ((x4 / 2 ^ 8 : Nat) : Int)), k4' - x4 % 256, B4'), ⟨?_, a1.other (by omega), a2.other (by omega), a3.other (by omega), a4.snoc (by omega) (by rw [hx4]; rfl)⟩, ⟨by simp only [appS]; exact ⟨i64eq (by omega), rfl, rfl, rfl, rfl, rfl, rfl, rfl, rfl, rfl, rfl, rfl, rfl, rfl, rfl, rfl, rfl, rfl, trivial⟩, ?_⟩⟩
                  · rw [hx4]; exact r4'.next hH q4 p4
                  · subst hx4
                    exact MEqv.trans (.cons (rvH_next r4' hH q4) (.refl _)) (show MEqv _ ([(ob, _), (v1, _), (v2, _), (v3, _), (v4, _), (rb, _), (c1, _), (c2, _), (c3, _), (tb, _)] ++ jk') from by first | exact MEqv.refl _ | (apply SelE.eqv; repeat (first | exact .nil | exact .all | exact .allN | exact .pref | exact .suf | (apply SelE.cons; (first | exact .here (by first | with_reducible rfl | exact blk_tab rfl rfl rfl rfl | exact rfl) | exact .there (.here (by first | with_reducible rfl | exact blk_tab rfl rfl rfl rfl | exact rfl)) | exact .there (.there (.here (by first | with_reducible rfl | exact blk_tab rfl rfl rfl rfl | exact rfl))) | exact .there (.there (.there (.here (by first | with_reducible rfl | exact blk_tab rfl rfl rfl rfl | exact rfl)))) | exact .there (.there (.there (.there (.here (by first | with_reducible rfl | exact blk_tab rfl rfl rfl rfl | exact rfl))))) | exact .there (.there (.there (.there (.there (.here (by first | with_reducible rfl | exact blk_tab rfl rfl rfl rfl | exact rfl)))))) | exact .there (.there (.there (.there (.there (.there (.here (by first | with_reducible rfl | exact blk_tab rfl rfl rfl rfl | exact rfl))))))) | exact .there (.there (.there (.there (.there (.there (.there (.here (by first | with_reducible rfl | exact blk_tab rfl rfl rfl rfl | exact rfl)))))))) | exact .there (.there (.there (.there (.there (.there (.there (.there (.here (by first | with_reducible rfl | exact blk_tab rfl rfl rfl rfl | exact rfl))))))))))) | apply SelE.skip)))
                · have hm : min i e4 = e4 := by omega
                  have hm1 : min (i + 1) e4 = e4 := by omega
                  rw [hm] at r4 a4 ⊢
                  rw [hm1]
                  refine go _ ?_
                  refine ⟨(g, k4, B4), ⟨r4, a1, a2, a3, a4⟩, joined ?_⟩
                  exact (show MEqv _ ([(ob, _), (v1, _), (v2, _), (v3, _), (v4, _), (rb, _), (c1, _), (c2, _), (c3, _), (tb, _)] ++ jk') from by first | exact MEqv.refl _ | (apply SelE.eqv; repeat (first | exact .nil | exact .all | exact .allN | exact .pref | exact .suf | (apply SelE.cons; (first | exact .here (by first | with_reducible rfl | exact blk_tab rfl rfl rfl rfl | exact rfl) | exact .there (.here (by first | with_reducible rfl | exact blk_tab rfl rfl rfl rfl | exact rfl)) | exact .there (.there (.here (by first | with_reducible rfl | exact blk_tab rfl rfl rfl rfl | exact rfl))) | exact .there (.there (.there (.here (by first | with_reducible rfl | exact blk_tab rfl rfl rfl rfl | exact rfl)))) | exact .there (.there (.there (.there (.here (by first | with_reducible rfl | exact blk_tab rfl rfl rfl rfl | exact rfl))))) | exact .there (.there (.there (.there (.there (.here (by first | with_reducible rfl | exact blk_tab rfl rfl rfl rfl | exact rfl)))))) | exact .there (.there (.there (.there (.there (.there (.here (by first | with_reducible rfl | exact blk_tab rfl rfl rfl rfl | exact rfl))))))) | exact .there (.there (.there (.there (.there (.there (.there (.here (by first | with_reducible rfl | exact blk_tab rfl rfl rfl rfl | exact rfl)))))))) | exact .there (.there (.there (.there (.there (.there (.there (.there (.here (by first | with_reducible rfl | exact blk_tab rfl rfl rfl rfl | exact rfl))))))))))) | apply SelE.skip)))
              · rintro ⟨g1, kk, BB⟩ f ⟨s4, t1, t2, t3, t4⟩
                dsimp only at s4 t1 t2 t3 t4 ⊢
                refine go _ ?_
                refine ro_storeI rfl rfl rfl rfl .here (by show _ < OB.n; omega) rfl hex ?_
                refine go _ ?_
                refine ro_storeI rfl rfl rfl rfl .here (by show _ < OB.n; omega) rfl hex ?_
                refine go _ ?_
                refine ro_storeI rfl rfl rfl rfl .here (by show _ < OB.n; omega) rfl hex ?_
                refine go _ ?_
                refine ⟨⟨i + 1, upd (upd (upd g1 (0 + i) (.int .u8 ((x1 / 2 ^ 8 : Nat) : Int))) (0 + (e + i)) (.int .u8 ((x2 / 2 ^ 8 : Nat) : Int))) (0 + (e + e + i)) (.int .u8 ((x3 / 2 ^ 8 : Nat) : Int)), k1' - x1 % 256, B1', k2' - x2 % 256, B2', k3' - x3 % 256, B3', kk, BB⟩, by dsimp only; omega,
                  ⟨by dsimp only; omega, by rw [hx1]; exact r1'.next hH q1 p1, by rw [hx2]; exact r2'.next hH q2 p2, by rw [hx3]; exact r3'.next hH q3 p3, s4,
                    ((t1.snoc (by omega) (by rw [hx1]; rfl)).other (by omega)).other (by omega), ((t2.other (by omega)).snoc (by omega) (by rw [hx2]; rfl)).other (by omega), ((t3.other (by omega)).other (by omega)).snoc (by omega) (by rw [hx3]; rfl), ((t4.other (by omega)).other (by omega)).other (by omega)⟩,
                  ⟨rfl, rfl, rfl, rfl, rfl, rfl, rfl, rfl, rfl, rfl, rfl, ?_, ?_, rfl, rfl, trivial⟩, ?_⟩
                · exact i64eq (a := e + i + 1) (by dsimp only; omega)
                · exact i64eq (a := e + e + i + 1) (by dsimp only; omega)
                · subst hx1 hx2 hx3
                  exact .cons rfl (.cons (rvH_next r1' hH q1) (.cons (rvH_next r2' hH q2) (.cons (rvH_next r3' hH q3) (.refl _))))
            · have hie : i = e := by omega
              subst hie
              have hm : min i e4 = e4 := by omega
              rw [hm] at r4 a4
              rw [if_pos ⟨r1.all, r2.all, r3.all, r4.all⟩] at hK0
              refine go _ ?_
              refine J_ret ?_
              refine ends_retS [12, 13] (post := (rb, rdB x (s.wHuf (.slice (some ⟨tb, 0, none⟩) 2048 2048) hb)) :: (tb, arrB .u16 2048 ht 104) :: ([(ob, ⟨OB.n, g, OB.T, (0, 0)⟩)] ++ jk')) ?_
              rw [hK0]
              refine ⟨_, [(ob, ⟨OB.n, g, OB.T, (0, 0)⟩)], jk', rfl, .inr ⟨ob, oc, _, rfl, rfl, rfl, hon, hol, fun j hj => ?_⟩, hkg g, rfl⟩
              by_cases j1 : j < i
              · have := a1 j j1
                rw [Nat.zero_add] at this
                dsimp only
                rw [if_pos j1]; exact this
              · by_cases j2 : j < i + i
                · have := a2 (j - i) (by omega)
                  rw [show i + (j - i) = j by omega] at this
                  dsimp only
                  rw [if_neg j1, if_pos j2]; exact this
                · by_cases j3 : j < i + i + i
                  · have := a3 (j - (i + i)) (by omega)
                    rw [show i + i + (j - (i + i)) = j by omega] at this
                    dsimp only
                    rw [if_neg j1, if_neg j2, if_pos j3]; exact this
                  · have := a4 (j - (i + i + i)) (by omega)
                    rw [show i + i + i + (j - (i + i + i)) = j by omega] at this
                    dsimp only
                    rw [if_neg j1, if_neg j2, if_neg j3]; exact this
end Go.Proofs.YtogmacnlpclgkaaDoor
