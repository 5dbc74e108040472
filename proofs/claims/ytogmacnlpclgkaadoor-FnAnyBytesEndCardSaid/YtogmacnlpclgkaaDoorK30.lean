/-
  TEXTS MERGED: C12, C13, C14.
-/
import Derived.Test.YtogmacnlpclgkaaDoorK29
/-! COMPRESSED BLOCKS 12: compressed literals; all literals. -/
namespace Go.Proofs.YtogmacnlpclgkaaDoor
open Go Go.Eng Go.Pz
attribute [local irreducible] RO J Trip Quiet
set_option maxRecDepth 20000
variable {G : Mem} {d : Nat → Nat}

/-- The Huffman table in memory. -/
def HtM (v : Value) (hb : Nat) (ht : Nat → Nat) (hm : Mem) : Prop :=
  (v = .slice none 0 0 ∧ hb = 0 ∧ ht = (fun _ => 0) ∧ hm = []) ∨ ∃ tb, v = .slice (some ⟨tb, 0, none⟩) 2048 2048 ∧ (hb ≠ 0 → HtB hb ht) ∧ hm = [(tb, arrB .u16 2048 ht 104)]

theorem htB_of {w' : Nat → Nat} {c b : Nat} {old w : Nat → Nat} (h : hufT w c = some (w', b)) : HtB b (hufTab w' (c + 1) b old (c + 1)) := by
  obtain ⟨h1, h2, h3, h4, h5, _⟩ := hufT_ok h
  refine ⟨h2, h3, fun p hp => ?_, fun p hp => ?_⟩
  · obtain ⟨i, i1, i2, i3, i4⟩ := hufTab_is (old := old) h5 hp
    have := i3.1
    rw [i4]; omega
  · obtain ⟨i, i1, i2, i3, i4⟩ := hufTab_is (old := old) h5 hp
    have := i3.1
    rw [i4]; omega
theorem hufRead_ok {n off : Nat} {old g : Nat → Nat} {b q : Nat} (hd : ∀ i, d i < 256) (h : hufRead d n off old = some (g, b, q)) : HtB b g ∧ off < q ∧ q ≤ off + 128 := by
  unfold hufRead at h
  cases hW : hufW d n off with
  | none => rw [hW] at h; cases h
  | some r =>
    obtain ⟨w, c, q'⟩ := r
    rw [hW] at h
    dsimp only at h
    cases hT : hufT w c with
    | none => rw [hT] at h; cases h
    | some r =>
      obtain ⟨w', b'⟩ := r
      rw [hT] at h
      simp only [Option.map_some, Option.some.injEq, Prod.mk.injEq] at h
      obtain ⟨rfl, rfl, rfl⟩ := h
      refine ⟨htB_of hT, ?_⟩
      have := hd off
      unfold hufW at hW
      split at hW
      · cases hW
      split at hW
      · obtain ⟨r, _, e⟩ := Option.map_eq_some_iff.1 hW
        cases e; omega
      split at hW
      · cases hW
      · cases hW; omega

/-- What readers of literals give, with trees. -/
def LitP (S : Sent G) (rb : Nat) (x : Int) (s : RS) (sm : Mem) (R : CE × Option (Nat × Nat × (Nat → Nat))) (r : Value) (m : Mem) : Prop :=
  ∃ hv' hm' fs' fm', HtM hv' R.1.hb R.1.ht hm' ∧ FsM fs' fm' ∧
    match R.2 with
    | some (o, K, L) => ∃ v' sm' jk', r = .tuple #[.int .i64 (o : Nat), v', .nilIface] ∧ LtM v' K L sm' ∧ Kp sm (sm' ++ jk') ∧ m = (rb, rdB x ((s.wHuf hv' R.1.hb).wFs fs')) :: (hm' ++ (fm' ++ (sm' ++ jk')))
    | none => ∃ e sm', r = .tuple #[.int .i64 0, .slice none 0 0, e] ∧ ErrB S e ∧ Kp sm sm' ∧ m = (rb, rdB x ((s.wHuf hv' R.1.hb).wFs fs')) :: (hm' ++ (fm' ++ sm'))

theorem rd_13 (x : Int) (s : RS) (n : Nat) : ((rdB x s).st 13 (.int .i64 (n : Nat))).obj = (rdB x { s with hb := n }).obj := blk_tab rfl rfl rfl rfl
theorem rd_12 (x : Int) (s : RS) (v : Value) : ((rdB x s).st 12 v).obj = (rdB x { s with ht := v }).obj := blk_tab rfl rfl rfl rfl

structure HufS where
  off : Nat
  tss : Nat
  hb : Nat
  ht : Nat → Nat
  tb : Nat
  fs : Value
  fm : Mem

set_option maxHeartbeats 4000000 in
theorem hufLit_t (S : Sent G) (rb : Nat) (x : Int) (s : RS) (da : Option Addr) (n cp : Nat) (hd : ∀ i, d i < 256) (hv : View G da n cp d) (hn : n ≤ 2 ^ 20) (h1 : 0 < n) (e : CE) (h2 : 2 ≤ d 0 % 4) (va : Option Addr) (vc : Nat) (D : Nat → Nat) (sm hm fm : Mem) (hl : LtM (.slice va 0 vc) 0 D sm) (hht : HtM s.ht e.hb e.ht hm) (hhb : s.hb = e.hb) (hfs : FsM s.fs fm) :
    Trip Tryd.prog G 64 #[.pointer (some ⟨rb, 0, none⟩), .slice da n cp, .int .i64 (1 : Nat), .int .u8 (d 0 : Nat), .slice va 0 vc] ((rb, rdB x s) :: (hm ++ (fm ++ sm))) (LitP S rb x s sm (litHuf e d n)) := by
  refine Trip_of Tryd.func64 rfl (by show 5 ≤ _; decide) (args := [.pointer (some ⟨rb, 0, none⟩), .slice da n cp, .int .i64 (1 : Nat), .int .u8 (d 0 : Nat), .slice va 0 vc]) fun c h0 hex => ?_
  obtain ⟨hdr, hhdr⟩ : ∃ hdr, hdr = d 0 := ⟨_, rfl⟩
  have hh := hd 0
  rw [← hhdr] at hh h2 ⊢
  obtain ⟨b0, z0, rfl⟩ := hv.some h1
  have hs0 : s = (s.wHuf s.ht e.hb).wFs s.fs := by rw [← hhb]
  have hB0 : e.hb ≠ 0 → HtB e.hb e.ht := by
    rcases hht with ⟨_, q2, _, _⟩ | ⟨_, _, q2, _⟩
    · exact fun h => absurd q2 h
    · exact q2
  have hbad : litHuf e d n = (e, none) → ∀ er, ErrB S er → LitP S rb x s sm (litHuf e d n) (.tuple #[.int .i64 0, .slice none 0 0, er]) ((rb, rdB x s) :: (hm ++ (fm ++ sm))) := fun h er he => by
    rw [h]
    exact ⟨s.ht, hm, s.fs, fm, hht, hfs, er, sm, rfl, he, Kp.refl _, by rw [← hs0]⟩
  refine goB _ ?_
  refine J_joinE (σ := Nat × Nat × Nat × Nat) [0, 1, 3, 4] (fun t => [(2, .int .i64 (t.1 : Nat)), (13, .int .i64 (t.2.1 : Nat)), (14, .int .i64 (t.2.2.1 : Nat)), (15, .int .i64 (t.2.2.2 : Nat))]) (fun _ => (rb, rdB x s) :: (hm ++ (fm ++ sm))) (fun t => litHd d = (t.1, t.2.1, t.2.2.1) ∧ t.1 ≤ n ∧ 2 ≤ t.1 ∧ t.1 ≤ 5 ∧ t.2.1 ≤ 2 ^ 20 ∧ t.2.2.1 ≤ 2 ^ 20 ∧ t.2.2.2 = if hdr / 4 % 4 = 0 then 1 else 4) ?_ ?_
  · have hL : litHd d = if hdr / 4 % 4 = 3 then (5, hdr / 16 + d 1 * 16 + d 2 % 64 * 4096, d 2 / 64 + d 3 * 4 + d 4 * 1024) else if hdr / 4 % 4 = 2 then (4, hdr / 16 + d 1 * 16 + d 2 % 4 * 4096, d 2 / 4 + d 3 * 64) else (3, hdr / 16 + d 1 % 64 * 16, d 1 / 64 + d 2 * 4) := by rw [hhdr]; rfl
    have hd1 := hd 1
    have hd2 := hd 2
    have hd3 := hd 3
    have hd4 := hd 4
    have hd2' := hd (1 + 1)
    have hd3' := hd (1 + 2)
    have hd4' := hd (1 + 3)
    refine go _ ?_
    refine J_condP rfl (fun f0 => ?_) (fun f0 => ?_)
    · refine go _ ?_
      refine J_condP rfl (fun _ => ?_) (fun h => absurd f0 h)
      refine go _ ?_
      have hL : litHd d = (3, hdr / 16 + d 1 % 64 * 16, d 1 / 64 + d 2 * 4) := by rw [hL]; simp only [show ¬ hdr / 4 % 4 = 3 by omega, show ¬ hdr / 4 % 4 = 2 by omega, if_false]
      refine J_condP rfl (fun hs => ?_) (fun hs => ?_)
      · refine go _ ?_
        refine ro_callT (meof_t S rb x s _) ?_
        rintro v m ⟨⟨b', rfl⟩, rfl⟩
        refine go _ ?_
        refine J_ret ?_
        exact ends_retS [10, 11, 12] (post := (rb, rdB x s) :: (hm ++ (fm ++ sm))) (hbad (by unfold litHuf; rw [hL]; exact if_pos (by dsimp only; omega)) _ (.inl ⟨b', rfl⟩))
      · refine go _ ?_
        refine ro_orZ rfl rfl rfl rfl (limi64 (by omega)) (limi64 (by omega)) (or_add' (j := 4) (by omega)) rfl ?_
        refine go _ ?_
        refine ro_orZ rfl rfl rfl rfl (limi64 (by omega)) (limi64 (by omega)) (or_add' (j := 2) (by omega)) rfl ?_
        refine go _ ?_
        refine J_condP rfl (fun g0 => ?_) (fun g0 => absurd (show ((hdr / 2 ^ 2 % 4 : Nat) : Int) = 0 by omega) g0)
        refine go _ ?_
        exact ⟨(3, hdr / 16 + d 1 % 64 * 16, d 1 / 64 + d 2 * 4, 1), ⟨hL, by dsimp only; omega, by dsimp only; omega, by dsimp only; omega, by dsimp only; omega, by dsimp only; omega, by dsimp only; rw [if_pos (by omega)]⟩, joined (.refl _)⟩
    · refine go _ ?_
      refine J_condP rfl (fun f1 => ?_) (fun f1 => ?_)
      · refine go _ ?_
        have hL : litHd d = (3, hdr / 16 + d 1 % 64 * 16, d 1 / 64 + d 2 * 4) := by rw [hL]; simp only [show ¬ hdr / 4 % 4 = 3 by omega, show ¬ hdr / 4 % 4 = 2 by omega, if_false]
        refine J_condP rfl (fun hs => ?_) (fun hs => ?_)
        · refine go _ ?_
          refine ro_callT (meof_t S rb x s _) ?_
          rintro v m ⟨⟨b', rfl⟩, rfl⟩
          refine go _ ?_
          refine J_ret ?_
          exact ends_retS [10, 11, 12] (post := (rb, rdB x s) :: (hm ++ (fm ++ sm))) (hbad (by unfold litHuf; rw [hL]; exact if_pos (by dsimp only; omega)) _ (.inl ⟨b', rfl⟩))
        · refine go _ ?_
          refine ro_orZ rfl rfl rfl rfl (limi64 (by omega)) (limi64 (by omega)) (or_add' (j := 4) (by omega)) rfl ?_
          refine go _ ?_
          refine ro_orZ rfl rfl rfl rfl (limi64 (by omega)) (limi64 (by omega)) (or_add' (j := 2) (by omega)) rfl ?_
          refine go _ ?_
          refine J_condP rfl (fun g0 => absurd (show ((hdr / 2 ^ 2 % 4 : Nat) : Int) = 0 from g0) (by omega)) (fun g0 => ?_)
          refine go _ ?_
          exact ⟨(3, hdr / 16 + d 1 % 64 * 16, d 1 / 64 + d 2 * 4, 4), ⟨hL, by dsimp only; omega, by dsimp only; omega, by dsimp only; omega, by dsimp only; omega, by dsimp only; omega, by dsimp only; rw [if_neg (by omega)]⟩, joined (.refl _)⟩
      · refine go _ ?_
        refine J_condP rfl (fun f2 => ?_) (fun f2 => ?_)
        · refine go _ ?_
          have hL : litHd d = (4, hdr / 16 + d 1 * 16 + d 2 % 4 * 4096, d 2 / 4 + d 3 * 64) := by rw [hL, show hdr / 4 % 4 = 2 by omega]; rfl
          refine J_condP rfl (fun hs => ?_) (fun hs => ?_)
          · refine go _ ?_
            refine ro_callT (meof_t S rb x s _) ?_
            rintro v m ⟨⟨b', rfl⟩, rfl⟩
            refine go _ ?_
            refine J_ret ?_
            exact ends_retS [10, 11, 12] (post := (rb, rdB x s) :: (hm ++ (fm ++ sm))) (hbad (by unfold litHuf; rw [hL]; exact if_pos (by dsimp only; omega)) _ (.inl ⟨b', rfl⟩))
          · refine go _ ?_
            refine ro_orZ rfl rfl rfl rfl (limi64 (by omega)) (limi64 (by omega)) (or_add' (j := 4) (by omega)) rfl ?_
            refine go _ ?_
            refine ro_orZ rfl rfl rfl rfl (limi64 (by omega)) (limi64 (by omega)) (or_add' (j := 12) (by omega)) rfl ?_
            refine go _ ?_
            refine ro_orZ rfl rfl rfl rfl (limi64 (by omega)) (limi64 (by omega)) (or_add' (j := 6) (by omega)) rfl ?_
            refine go _ ?_
            exact ⟨(4, hdr / 16 + d 1 * 16 + d 2 % 4 * 4096, d 2 / 4 + d 3 * 64, 4), ⟨hL, by dsimp only; omega, by dsimp only; omega, by dsimp only; omega, by dsimp only; omega, by dsimp only; omega, by dsimp only; rw [if_neg (by omega)]⟩, joined (.refl _)⟩
        · refine go _ ?_
          refine J_condP rfl (fun f3 => ?_) (fun f3 => absurd f3 (by omega))
          refine go _ ?_
          have hL : litHd d = (5, hdr / 16 + d 1 * 16 + d 2 % 64 * 4096, d 2 / 64 + d 3 * 4 + d 4 * 1024) := by rw [hL, show hdr / 4 % 4 = 3 by omega]; rfl
          refine J_condP rfl (fun hs => ?_) (fun hs => ?_)
          · refine go _ ?_
            refine ro_callT (meof_t S rb x s _) ?_
            rintro v m ⟨⟨b', rfl⟩, rfl⟩
            refine go _ ?_
            refine J_ret ?_
            exact ends_retS [10, 11, 12] (post := (rb, rdB x s) :: (hm ++ (fm ++ sm))) (hbad (by unfold litHuf; rw [hL]; exact if_pos (by dsimp only; omega)) _ (.inl ⟨b', rfl⟩))
          · refine go _ ?_
            refine ro_orZ rfl rfl rfl rfl (limi64 (by omega)) (limi64 (by omega)) (or_add' (j := 4) (by omega)) rfl ?_
            refine go _ ?_
            refine ro_orZ rfl rfl rfl rfl (limi64 (by omega)) (limi64 (by omega)) (or_add' (j := 12) (by omega)) rfl ?_
            refine go _ ?_
            refine ro_orZ rfl rfl rfl rfl (limi64 (by omega)) (limi64 (by omega)) (or_add' (j := 2) (by omega)) rfl ?_
            refine go _ ?_
            refine ro_orZ rfl rfl rfl rfl (limi64 (by omega)) (limi64 (by omega)) (or_add' (j := 10) (by omega)) rfl ?_
            refine go _ ?_
            exact ⟨(5, hdr / 16 + d 1 * 16 + d 2 % 64 * 4096, d 2 / 64 + d 3 * 4 + d 4 * 1024, 4), ⟨hL, by dsimp only; omega, by dsimp only; omega, by dsimp only; omega, by dsimp only; omega, by dsimp only; omega, by dsimp only; rw [if_neg (by omega)]⟩, joined (.refl _)⟩
  · rintro ⟨o, K, cs, st⟩ f ⟨g1, g2, g3, g4, g5, g6, g7⟩
    dsimp only at g1 g2 g3 g4 g5 g6 g7 ⊢
    have hR : litHuf e d n = if 131072 < K then (e, none) else if n < o + cs then (e, none) else if hdr % 4 = 2 then
        (match hufRead d n o e.ht with
        | none => (e, none)
        | some (g, b, q) => if cs < q - o then ({ e with ht := g, hb := b }, none) else ({ e with ht := g, hb := b }, (litS { e with ht := g, hb := b } d n q (cs - (q - o)) K).map fun L => (o + cs, K, L)))
      else if e.hb = 0 then (e, none) else (e, (litS e d n o cs K).map fun L => (o + cs, K, L)) := by
      unfold litHuf; rw [g1, hhdr]; dsimp only; rw [if_neg (by omega)]; rfl
    refine go _ ?_
    refine J_condP rfl (fun hbig => ?_) (fun hsm => ?_)
    · rw [if_pos (by omega)] at hR
      refine go _ ?_
      refine ro_callT (merr_t S rb x s _ _) ?_
      rintro v m ⟨⟨b', rfl⟩, rfl⟩
      refine go _ ?_
      refine J_ret ?_
      exact ends_retS [10, 11, 12] (post := (rb, rdB x s) :: (hm ++ (fm ++ sm))) (hbad hR _ (.inl ⟨b', rfl⟩))
    · rw [if_neg (by omega)] at hR
      refine go _ ?_
      refine ro_splitP 179 rfl (fun hro => ?_) (fun hro => ?_)
      · rw [if_pos (by omega)] at hR
        refine go _ ?_
        refine ro_callT (meof_t S rb x s _) ?_
        rintro v m ⟨⟨b', rfl⟩, rfl⟩
        refine go _ ?_
        refine J_ret ?_
        exact ends_retS [10, 11, 12] (post := (rb, rdB x s) :: (hm ++ (fm ++ sm))) (hbad hR _ (.inl ⟨b', rfl⟩))
      · rw [if_neg (by omega)] at hR
        refine go _ ?_
        refine J_condP rfl (fun h => absurd h (by omega)) (fun _ => ?_)
        refine go _ ?_
        refine J_joinE (σ := HufS) [0, 1, 4, 13, 15, 16] (fun t => [(2, .int .i64 (t.off : Nat)), (17, .int .i64 (t.tss : Nat))]) (fun t => (rb, rdB x ((s.wHuf (.slice (some ⟨t.tb, 0, none⟩) 2048 2048) t.hb).wFs t.fs)) :: (t.tb, arrB .u16 2048 t.ht 104) :: (t.fm ++ sm))
          (fun t => litHuf e d n = ({ e with ht := t.ht, hb := t.hb }, (litS { e with ht := t.ht, hb := t.hb } d n t.off t.tss K).map fun L => (o + cs, K, L)) ∧ HtB t.hb t.ht ∧ FsM t.fs t.fm ∧ 2 ≤ t.off ∧ t.off + t.tss ≤ n) ?_ ?_
        · refine J_condP rfl (fun htree => ?_) (fun hno => ?_)
          · rw [if_pos (by omega)] at hR
            refine J_seq ?_
            refine J_joinE (σ := Nat) [0, 1, 2, 4, 13, 15, 16, 17] (fun _ => []) (fun tb => (rb, rdB x ((s.wHuf (.slice (some ⟨tb, 0, none⟩) 2048 2048) e.hb).wFs s.fs)) :: (tb, arrB .u16 2048 e.ht 104) :: (fm ++ sm)) (fun _ => True) ?_ ?_
            · rw [hs0]
              rcases hht with ⟨q1, q2, q3, rfl⟩ | ⟨tb, q1, q2, rfl⟩
              · rw [q1]
                refine go _ ?_
                refine J_condP rfl (fun _ => ?_) (fun h => absurd h (by decide))
                refine go _ ?_
                refine ro_make rfl rfl rfl rfl z104 (by decide) (Nat.le_refl _) (by decide) hex rfl fun tb htb => ?_
                refine go _ ?_
                refine ⟨tb, trivial, joined ?_⟩
                refine MEqv.trans (.of_perm (List.Perm.swap _ _ _)) (.cons (rd_12 _ _ _) (.cons ?_ (.refl _)))
                rw [q3]
                exact obj_congr fun i _ => by
                  show [Value.int .u16 0].getD (i % 1) undef = _
                  rw [Nat.mod_one]; rfl
              · rw [q1]
                refine go _ ?_
                refine J_condP rfl (fun h => absurd h (by decide)) (fun _ => ?_)
                refine go _ ?_
                exact ⟨tb, trivial, joined (.refl _)⟩
            · rintro tb f _
              refine go _ ?_
              refine ro_callT (readHuff_t S rb tb x ((s.wHuf (.slice (some ⟨tb, 0, none⟩) 2048 2048) e.hb).wFs s.fs) _ n cp hd hv hn o e.ht fm (by omega) hfs) ?_ (hs := .refl _)
              rintro v m ⟨fs', fm', hfs', hvm⟩
              cases hH : hufRead d n o e.ht with
              | none =>
                rw [hH] at hvm hR
                dsimp only at hvm hR
                obtain ⟨er, rfl, he, rfl⟩ := hvm
                have hfin : LitP S rb x s sm (litHuf e d n) (.tuple #[.int .i64 0, .slice none 0 0, er]) ((rb, rdB x ((s.wHuf (.slice (some ⟨tb, 0, none⟩) 2048 2048) e.hb).wFs fs')) :: ([(tb, arrB .u16 2048 e.ht 104)] ++ (fm' ++ sm))) := by
                  rw [hR]
                  exact ⟨_, [(tb, arrB .u16 2048 e.ht 104)], fs', fm', .inr ⟨tb, rfl, hB0, rfl⟩, hfs', er, sm, rfl, he, Kp.refl _, rfl⟩
                rcases he with ⟨b', rfl⟩ | rfl
                · refine go _ ?_
                  refine J_ret ?_
                  exact ends_retS [10, 11, 12] (post := (rb, rdB x ((s.wHuf (.slice (some ⟨tb, 0, none⟩) 2048 2048) e.hb).wFs fs')) :: ([(tb, arrB .u16 2048 e.ht 104)] ++ (fm' ++ sm))) (junk := []) hfin rfl (by rw [List.append_nil]; exact .refl _)
                · unfold Sent.ueofV at hfin ⊢
                  refine go _ ?_
                  refine J_ret ?_
                  exact ends_retS [10, 11, 12] (post := (rb, rdB x ((s.wHuf (.slice (some ⟨tb, 0, none⟩) 2048 2048) e.hb).wFs fs')) :: ([(tb, arrB .u16 2048 e.ht 104)] ++ (fm' ++ sm))) (junk := []) hfin rfl (by rw [List.append_nil]; exact .refl _)
              | some r =>
                obtain ⟨g, b, q⟩ := r
                rw [hH] at hvm hR
                dsimp only at hvm hR
                obtain ⟨rfl, rfl⟩ := hvm
                obtain ⟨hB1, hoq, hqo⟩ := hufRead_ok hd hH
                have b1 := hB1.b1
                have b11 := hB1.b11
                refine go _ ?_
                refine J_eqv (m' := (rb, rdB x ((s.wHuf (.slice (some ⟨tb, 0, none⟩) 2048 2048) b).wFs fs')) :: (tb, arrB .u16 2048 g 104) :: (fm' ++ sm)) (.cons (rd_13 _ _ _) (.refl _)) ?_
                refine J_condP rfl (fun hsh => ?_) (fun hok => ?_)
                · rw [if_pos (by omega)] at hR
                  refine go _ ?_
                  refine ro_callT (merr_t S rb x _ _ _) ?_
                  rintro v m ⟨⟨b', rfl⟩, rfl⟩
                  refine go _ ?_
                  refine J_ret ?_
                  refine ends_retS [10, 11, 12] (post := (rb, rdB x ((s.wHuf (.slice (some ⟨tb, 0, none⟩) 2048 2048) b).wFs fs')) :: ([(tb, arrB .u16 2048 g 104)] ++ (fm' ++ sm))) (junk := []) ?_ rfl (by rw [List.append_nil]; exact .refl _)
                  rw [hR]
                  exact ⟨_, [(tb, arrB .u16 2048 g 104)], fs', fm', .inr ⟨tb, rfl, fun _ => hB1, rfl⟩, hfs', _, sm, rfl, .inl ⟨b', rfl⟩, Kp.refl _, rfl⟩
                · rw [if_neg (by omega)] at hR
                  refine go _ ?_
                  exact ⟨⟨q, cs - (q - o), b, g, tb, fs', fm'⟩, ⟨hR, hB1, hfs', by dsimp only; omega, by dsimp only; omega⟩, joined (.refl _)⟩
          · rw [if_neg (by omega)] at hR
            rcases hht with ⟨q1, q2, q3, rfl⟩ | ⟨tb, q1, q2, rfl⟩
            · rw [if_pos q2] at hR
              refine go _ ?_
              refine J_condP rfl (fun _ => ?_) (fun h => absurd (show ((s.hb : Nat) : Int) = 0 by rw [hhb, q2]; rfl) h)
              refine go _ ?_
              refine ro_callT (merr_t S rb x s _ _) ?_
              rintro v m ⟨⟨b', rfl⟩, rfl⟩
              refine go _ ?_
              refine J_ret ?_
              exact ends_retS [10, 11, 12] (post := (rb, rdB x s) :: ([] ++ (fm ++ sm))) (hbad hR _ (.inl ⟨b', rfl⟩))
            · refine go _ ?_
              refine J_condP rfl (fun hz => ?_) (fun hz => ?_)
              · rw [if_pos (by omega)] at hR
                refine go _ ?_
                refine ro_callT (merr_t S rb x s _ _) ?_
                rintro v m ⟨⟨b', rfl⟩, rfl⟩
                refine go _ ?_
                refine J_ret ?_
                exact ends_retS [10, 11, 12] (post := (rb, rdB x s) :: ([(tb, arrB .u16 2048 e.ht 104)] ++ (fm ++ sm))) (hbad hR _ (.inl ⟨b', rfl⟩))
              · rw [if_neg (by omega)] at hR
                refine go _ ?_
                refine ⟨⟨o, cs, e.hb, e.ht, tb, s.fs, fm⟩, ⟨hR, q2 (by omega), hfs, g3, by dsimp only; omega⟩, joined ?_⟩
                dsimp only
                rw [← q1, ← hs0]
                exact .refl _
        · rintro ⟨o2, tss, hb, ht, tb, fs, fm⟩ f ⟨k1, k2, k3, k4, k5⟩
          dsimp only at k1 k2 k3 k4 k5 ⊢
          refine go _ ?_
          have hst : st = 1 ↔ hdr / 4 % 4 = 0 := by rw [g7]; split <;> omega
          refine J_condP rfl (fun hone => ?_) (fun hfour => ?_)
          · have hS : litS { e with ht := ht, hb := hb } d n o2 tss K = lit1 ht hb d o2 tss K := by unfold litS; rw [← hhdr]; exact if_pos (by omega)
            rw [hS] at k1
            refine go _ ?_
            refine ro_callT (one_t S rb tb x (s.wFs fs) _ n cp hd hv hn hb ht k2 o2 tss K k4 k5 (by omega) va vc D sm hl) ?_ (hs := .of_perm (List.Perm.cons _ (List.Perm.cons _ List.perm_append_comm)))
            rintro v m hvm
            cases hY : lit1 ht hb d o2 tss K with
            | none =>
              rw [hY] at hvm k1
              obtain ⟨er, sm', rfl, ⟨b', rfl⟩, hkp, rfl⟩ := hvm
              refine go _ ?_
              refine J_ret ?_
              refine ends_retS [10, 11, 12] (post := (rb, rdB x ((s.wHuf (.slice (some ⟨tb, 0, none⟩) 2048 2048) hb).wFs fs)) :: ([(tb, arrB .u16 2048 ht 104)] ++ (fm ++ sm'))) (junk := []) ?_ rfl (by rw [List.append_nil]; exact .of_perm (List.Perm.cons _ (List.Perm.cons _ List.perm_append_comm)))
              rw [k1]
              exact ⟨_, [(tb, arrB .u16 2048 ht 104)], fs, fm, .inr ⟨tb, rfl, fun _ => k2, rfl⟩, k3, _, sm', rfl, .inl ⟨b', rfl⟩, hkp, rfl⟩
            | some L =>
              rw [hY] at hvm k1
              obtain ⟨v', sm', jk', rfl, hlt, hkp, rfl⟩ := hvm
              obtain ⟨oa, oc, rfl⟩ := hlt.form
              refine go _ ?_
              refine J_ret ?_
              refine ends_retS [10, 11, 12] (post := (rb, rdB x ((s.wHuf (.slice (some ⟨tb, 0, none⟩) 2048 2048) hb).wFs fs)) :: ([(tb, arrB .u16 2048 ht 104)] ++ (fm ++ (sm' ++ jk')))) (junk := []) ?_ rfl (by rw [List.append_nil]; exact .of_perm (List.Perm.cons _ (List.Perm.cons _ List.perm_append_comm)))
              rw [k1]
              exact ⟨_, [(tb, arrB .u16 2048 ht 104)], fs, fm, .inr ⟨tb, rfl, fun _ => k2, rfl⟩, k3, _, sm', jk', rfl, hlt, hkp, rfl⟩
          · have hS : litS { e with ht := ht, hb := hb } d n o2 tss K = lit4 ht hb d n o2 tss K := by unfold litS; rw [← hhdr]; exact if_neg (by omega)
            rw [hS] at k1
            refine go _ ?_
            refine ro_callT (four_t S rb tb x (s.wFs fs) _ n cp hd hv hn hb ht k2 o2 tss K k4 k5 (by omega) va vc D sm hl) ?_ (hs := .of_perm (List.Perm.cons _ (List.Perm.cons _ List.perm_append_comm)))
            rintro v m hvm
            cases hY : lit4 ht hb d n o2 tss K with
            | none =>
              rw [hY] at hvm k1
              obtain ⟨er, sm', rfl, ⟨b', rfl⟩, hkp, rfl⟩ := hvm
              refine go _ ?_
              refine J_ret ?_
              refine ends_retS [10, 11, 12] (post := (rb, rdB x ((s.wHuf (.slice (some ⟨tb, 0, none⟩) 2048 2048) hb).wFs fs)) :: ([(tb, arrB .u16 2048 ht 104)] ++ (fm ++ sm'))) (junk := []) ?_ rfl (by rw [List.append_nil]; exact .of_perm (List.Perm.cons _ (List.Perm.cons _ List.perm_append_comm)))
              rw [k1]
              exact ⟨_, [(tb, arrB .u16 2048 ht 104)], fs, fm, .inr ⟨tb, rfl, fun _ => k2, rfl⟩, k3, _, sm', rfl, .inl ⟨b', rfl⟩, hkp, rfl⟩
            | some L =>
              rw [hY] at hvm k1
              obtain ⟨v', sm', jk', rfl, hlt, hkp, rfl⟩ := hvm
              obtain ⟨oa, oc, rfl⟩ := hlt.form
              refine go _ ?_
              refine J_ret ?_
              refine ends_retS [10, 11, 12] (post := (rb, rdB x ((s.wHuf (.slice (some ⟨tb, 0, none⟩) 2048 2048) hb).wFs fs)) :: ([(tb, arrB .u16 2048 ht 104)] ++ (fm ++ (sm' ++ jk')))) (junk := []) ?_ rfl (by rw [List.append_nil]; exact .of_perm (List.Perm.cons _ (List.Perm.cons _ List.perm_append_comm)))
              rw [k1]
              exact ⟨_, [(tb, arrB .u16 2048 ht 104)], fs, fm, .inr ⟨tb, rfl, fun _ => k2, rfl⟩, k3, _, sm', jk', rfl, hlt, hkp, rfl⟩
end Go.Proofs.YtogmacnlpclgkaaDoor

/-! COMPRESSED BLOCKS 13: all literals; baseline tables. -/
namespace Go.Proofs.YtogmacnlpclgkaaDoor
open Go Go.Eng Go.Pz
attribute [local irreducible] RO J Trip Quiet
set_option maxRecDepth 20000
variable {G : Mem} {d : Nat → Nat}

theorem lits_t (S : Sent G) (rb : Nat) (x : Int) (s : RS) (da : Option Addr) (n cp : Nat) (hd : ∀ i, d i < 256) (hv : View G da n cp d) (hn : n ≤ 2 ^ 20) (e : CE) (va : Option Addr) (vc : Nat) (D : Nat → Nat) (sm hm fm : Mem) (hl : LtM (.slice va 0 vc) 0 D sm) (hht : HtM s.ht e.hb e.ht hm) (hhb : s.hb = e.hb) (hfs : FsM s.fs fm) :
    Trip Tryd.prog G 58 #[.pointer (some ⟨rb, 0, none⟩), .slice da n cp, .int .i64 (0 : Nat), .slice va 0 vc] ((rb, rdB x s) :: (hm ++ (fm ++ sm))) (LitP S rb x s sm (lits e d n)) := by
  refine Trip_of Tryd.func58 rfl (by show 4 ≤ _; decide) (args := [.pointer (some ⟨rb, 0, none⟩), .slice da n cp, .int .i64 (0 : Nat), .slice va 0 vc]) fun c h0 hex => ?_
  have hs0 : s = (s.wHuf s.ht e.hb).wFs s.fs := by rw [← hhb]
  refine go _ ?_
  refine J_condP rfl (fun hbig => ?_) (fun hlt => ?_)
  · have hR : lits e d n = (e, none) := by unfold lits; rw [if_pos (by omega)]
    refine go _ ?_
    refine ro_callT (meof_t S rb x s _) ?_
    rintro v m ⟨⟨b', rfl⟩, rfl⟩
    refine go _ ?_
    refine J_ret ?_
    refine ends_retS [8, 9, 10] (post := (rb, rdB x s) :: (hm ++ (fm ++ sm))) ?_
    rw [hR]
    exact ⟨s.ht, hm, s.fs, fm, hht, hfs, _, sm, rfl, .inl ⟨b', rfl⟩, Kp.refl _, by rw [← hs0]⟩
  have hn0 : 0 < n := by omega
  obtain ⟨b0, z0, rfl⟩ := hv.some hn0
  obtain ⟨hdr, hhdr⟩ : ∃ hdr, hdr = d 0 := ⟨_, rfl⟩
  have hh := hd 0
  rw [← hhdr] at hh
  refine go _ ?_
  rw [← hhdr]
  refine go _ ?_
  refine ro_splitP 28 rfl (fun h0 => ?_) (fun h0 => ?_)
  · subst hhdr
    have hR : lits e d n = (e, litRaw d n) := by unfold lits; rw [if_neg (by omega), if_pos (by omega)]
    refine go _ ?_
    refine ro_callT (rawLit_t S rb x s _ n cp hd hv hn hn0 (by omega) va vc D sm hl) ?_ (hs := .of_perm (List.Perm.cons _ (by rw [← List.append_assoc]; exact List.perm_append_comm)))
    rintro v m hvm
    cases hY : litRaw d n with
    | none =>
      rw [hY] at hvm
      obtain ⟨er, sm', rfl, he, hkp, rfl⟩ := hvm
      have hfin : LitP S rb x s sm (lits e d n) (.tuple #[.int .i64 0, .slice none 0 0, er]) ((rb, rdB x s) :: (hm ++ (fm ++ sm'))) := by
        rw [hR]; exact ⟨_, _, _, _, hht, hfs, by dsimp only; rw [hY]; exact ⟨er, sm', rfl, he, hkp, by rw [← hs0]⟩⟩
      rcases he with ⟨b', rfl⟩ | rfl
      · refine go _ ?_
        refine J_ret ?_
        exact ends_retS [8, 9, 10] (post := ((rb, rdB x s) :: (hm ++ (fm ++ sm')))) (junk := []) hfin rfl (by rw [List.append_nil]; exact .of_perm (List.Perm.cons _ (by rw [← List.append_assoc]; exact List.perm_append_comm)))
      · unfold Sent.ueofV at hfin ⊢
        refine go _ ?_
        refine J_ret ?_
        exact ends_retS [8, 9, 10] (post := ((rb, rdB x s) :: (hm ++ (fm ++ sm')))) (junk := []) hfin rfl (by rw [List.append_nil]; exact .of_perm (List.Perm.cons _ (by rw [← List.append_assoc]; exact List.perm_append_comm)))
    | some r =>
      obtain ⟨o, K, L⟩ := r
      rw [hY] at hvm
      obtain ⟨v', sm', jk', rfl, hlt, hkp, rfl⟩ := hvm
      obtain ⟨oa, oc, rfl⟩ := hlt.form
      refine go _ ?_
      refine J_ret ?_
      refine ends_retS [8, 9, 10] (post := ((rb, rdB x s) :: (hm ++ (fm ++ (sm' ++ jk'))))) (junk := []) ?_ rfl (by rw [List.append_nil]; exact .of_perm (List.Perm.cons _ (by rw [← List.append_assoc]; exact List.perm_append_comm)))
      rw [hR]; exact ⟨_, _, _, _, hht, hfs, by dsimp only; rw [hY]; exact ⟨_, sm', jk', rfl, hlt, hkp, by rw [← hs0]⟩⟩
  refine go _ ?_
  refine J_condP rfl (fun h1 => ?_) (fun h1 => ?_)
  · subst hhdr
    have hR : lits e d n = (e, litRaw d n) := by unfold lits; rw [if_neg (by omega), if_pos (by omega)]
    refine go _ ?_
    refine ro_callT (rawLit_t S rb x s _ n cp hd hv hn hn0 (by omega) va vc D sm hl) ?_ (hs := .of_perm (List.Perm.cons _ (by rw [← List.append_assoc]; exact List.perm_append_comm)))
    rintro v m hvm
    cases hY : litRaw d n with
    | none =>
      rw [hY] at hvm
      obtain ⟨er, sm', rfl, he, hkp, rfl⟩ := hvm
      have hfin : LitP S rb x s sm (lits e d n) (.tuple #[.int .i64 0, .slice none 0 0, er]) ((rb, rdB x s) :: (hm ++ (fm ++ sm'))) := by
        rw [hR]; exact ⟨_, _, _, _, hht, hfs, by dsimp only; rw [hY]; exact ⟨er, sm', rfl, he, hkp, by rw [← hs0]⟩⟩
      rcases he with ⟨b', rfl⟩ | rfl
      · refine go _ ?_
        refine J_ret ?_
        exact ends_retS [8, 9, 10] (post := ((rb, rdB x s) :: (hm ++ (fm ++ sm')))) (junk := []) hfin rfl (by rw [List.append_nil]; exact .of_perm (List.Perm.cons _ (by rw [← List.append_assoc]; exact List.perm_append_comm)))
      · unfold Sent.ueofV at hfin ⊢
        refine go _ ?_
        refine J_ret ?_
        exact ends_retS [8, 9, 10] (post := ((rb, rdB x s) :: (hm ++ (fm ++ sm')))) (junk := []) hfin rfl (by rw [List.append_nil]; exact .of_perm (List.Perm.cons _ (by rw [← List.append_assoc]; exact List.perm_append_comm)))
    | some r =>
      obtain ⟨o, K, L⟩ := r
      rw [hY] at hvm
      obtain ⟨v', sm', jk', rfl, hlt, hkp, rfl⟩ := hvm
      obtain ⟨oa, oc, rfl⟩ := hlt.form
      refine go _ ?_
      refine J_ret ?_
      refine ends_retS [8, 9, 10] (post := ((rb, rdB x s) :: (hm ++ (fm ++ (sm' ++ jk'))))) (junk := []) ?_ rfl (by rw [List.append_nil]; exact .of_perm (List.Perm.cons _ (by rw [← List.append_assoc]; exact List.perm_append_comm)))
      rw [hR]; exact ⟨_, _, _, _, hht, hfs, by dsimp only; rw [hY]; exact ⟨_, sm', jk', rfl, hlt, hkp, by rw [← hs0]⟩⟩
  · subst hhdr
    have hR : lits e d n = litHuf e d n := by unfold lits; rw [if_neg (by omega), if_neg (by omega)]
    refine go _ ?_
    refine ro_callT (hufLit_t S rb x s _ n cp hd hv hn hn0 e (by omega) va vc D sm hm fm hl hht hhb hfs) ?_ (fm := []) (hs := by rw [List.append_nil]; exact .refl _)
    rintro v m ⟨hv', hm', fs', fm', w1, w2, hvm⟩
    cases hY : (litHuf e d n).2 with
    | none =>
      rw [hY] at hvm
      obtain ⟨er, sm', rfl, he, hkp, rfl⟩ := hvm
      have hfin : LitP S rb x s sm (lits e d n) (.tuple #[.int .i64 0, .slice none 0 0, er]) ((rb, rdB x ((s.wHuf hv' (litHuf e d n).1.hb).wFs fs')) :: (hm' ++ (fm' ++ sm'))) := by
        rw [hR]; exact ⟨_, _, _, _, w1, w2, by rw [hY]; exact ⟨er, sm', rfl, he, hkp, rfl⟩⟩
      rcases he with ⟨b', rfl⟩ | rfl
      · refine go _ ?_
        refine J_ret ?_
        exact ends_retS [8, 9, 10] (post := ((rb, rdB x ((s.wHuf hv' (litHuf e d n).1.hb).wFs fs')) :: (hm' ++ (fm' ++ sm')))) (junk := []) hfin rfl (.refl _)
      · unfold Sent.ueofV at hfin ⊢
        refine go _ ?_
        refine J_ret ?_
        exact ends_retS [8, 9, 10] (post := ((rb, rdB x ((s.wHuf hv' (litHuf e d n).1.hb).wFs fs')) :: (hm' ++ (fm' ++ sm')))) (junk := []) hfin rfl (.refl _)
    | some r =>
      obtain ⟨o, K, L⟩ := r
      rw [hY] at hvm
      obtain ⟨v', sm', jk', rfl, hlt, hkp, rfl⟩ := hvm
      obtain ⟨oa, oc, rfl⟩ := hlt.form
      refine go _ ?_
      refine J_ret ?_
      refine ends_retS [8, 9, 10] (post := ((rb, rdB x ((s.wHuf hv' (litHuf e d n).1.hb).wFs fs')) :: (hm' ++ (fm' ++ (sm' ++ jk'))))) (junk := []) ?_ rfl (.refl _)
      rw [hR]; exact ⟨_, _, _, _, w1, w2, by rw [hY]; exact ⟨_, sm', jk', rfl, hlt, hkp, rfl⟩⟩
end Go.Proofs.YtogmacnlpclgkaaDoor

/-! COMPRESSED BLOCKS 14: tables of numbers made of FSE tables. -/
namespace Go.Proofs.YtogmacnlpclgkaaDoor
open Go Go.Eng Go.Pz
attribute [local irreducible] RO J Trip Quiet
set_option maxRecDepth 20000
variable {G : Mem} {d : Nat → Nat}

/-- FSE cells in memory. -/
def FsG (g : Nat → Value) (L : Nat) (sy bt bs : Nat → Nat) : Prop := ∀ p, p < L → g (p * 3) = .int .u8 (sy p : Nat) ∧ g (p * 3 + 1) = .int .u8 (bt p : Nat) ∧ g (p * 3 + 2) = .int .u16 (bs p : Nat)
def cellL (c : SCell) : List Value := [.int .u32 (c.base : Nat), .int .u8 (c.more : Nat), .int .u8 (c.bits : Nat), .int .u16 (c.next : Nat)]
/-- Cells of numbers in memory. -/
def SqG (g : Nat → Value) (L : Nat) (c : Nat → SCell) : Prop := ∀ p, p < L → ∀ j, j < 4 → g (p * 4 + j) = listG (cellL (c p)) j
theorem tab3 {g : Nat → Value} {o : Nat} {a b c : Value} (h0 : g o = a) (h1 : g (o + 1) = b) (h2 : g (o + 2) = c) : (tabL (2 + 1) fun j => g (o + j)) = [a, b, c] := by
  show [g (o + 0), g (o + 1), g (o + 2)] = _
  rw [Nat.add_zero, h0, h1, h2]
theorem SqG.snoc {g : Nat → Value} {i o : Nat} {c : Nat → SCell} (h : SqG g i c) (ho : o = i * 4) : SqG (blit g o (3 + 1) (listG (cellL (c i)))) (i + 1) c := fun p hp j hj => by
  by_cases he : p = i
  · rw [blit_in _ _ _ _ _ (by omega) (by omega), he]; congr 1; omega
  · rw [blit_out _ _ _ _ _ (by omega)]; exact h p (by omega) j hj

structure BasS where
  i : Nat
  g : Nat → Value
  jk : Mem

theorem base1_t (S : Sent G) (rb fb bb : Nat) (x : Int) (s : RS) (off : Int) (L fc bc : Nat) (FB BB : Blk) (sy bt bs : Nat → Nat) (hF : FsG FB.g L sy bt bs) (hFn : L * 3 ≤ FB.n) (hBn : L * 4 ≤ BB.n) (hBf : BB.fr = (0, 0)) (hL : L ≤ 512) (hsy : ∀ p, p < L → sy p < 256) (hbt : ∀ p, p < L → bt p < 256 ∧ bs p < 65536)
    (h : (∀ p, p < L → sy p ≤ 31) ∨ 0 < L ∧ 31 < sy 0) :
    Trip Tryd.prog G 84 #[.pointer (some ⟨rb, 0, none⟩), .int .i64 off, .slice (some ⟨fb, 0, none⟩) L fc, .slice (some ⟨bb, 0, none⟩) L bc] [(rb, rdB x s), (fb, FB), (bb, BB)] (fun v m =>
      if 0 < L ∧ 31 < sy 0 then ErrV S .z v ∧ m = [(rb, rdB x s), (fb, FB), (bb, BB)]
      else v = .nilIface ∧ ∃ g, SqG g L (fun p => sqCell 1 (sy p) (bt p) (bs p)) ∧ m = [(rb, rdB x s), (fb, FB), (bb, ⟨BB.n, g, BB.T, (0, 0)⟩)]) := by
  refine Trip_of Tryd.func84 rfl (by show 4 ≤ _; decide) (args := [.pointer (some ⟨rb, 0, none⟩), .int .i64 off, .slice (some ⟨fb, 0, none⟩) L fc, .slice (some ⟨bb, 0, none⟩) L bc]) fun c h0 hex => ?_
  refine go _ ?_
  refine J_loopL (σ := BasS) [0, 1, 3, 12, 13] (fun t => [(14, .int .i64 (t.i : Nat))]) (fun t => (rb, rdB x s) :: (fb, FB) :: (bb, ⟨BB.n, t.g, BB.T, (0, 0)⟩) :: t.jk) (fun t => t.i ≤ L ∧ SqG t.g t.i (fun p => sqCell 1 (sy p) (bt p) (bs p)) ∧ (t.i = 0 → t.g = BB.g) ∧ (0 < t.i → sy 0 ≤ 31)) (fun t => L - t.i) ⟨0, BB.g, []⟩
    (.skip (.skip (.cons (by unfold Blk.obj; rw [hBf]; rfl) .nil))) ⟨Nat.zero_le _, fun p hp => absurd hp (Nat.not_lt_zero _), fun _ => rfl, fun h => absurd h (Nat.not_lt_zero _)⟩ ?_
  rintro ⟨i, g, jk⟩ f ⟨hi, hg, hg0, hi0⟩
  dsimp only at hi hg hg0 hi0 ⊢
  refine go _ ?_
  refine J_condP rfl (fun hlt => ?_) (fun hge => ?_)
  · obtain ⟨f1, f2, f3⟩ := hF i (by omega)
    have hsi := hsy i (by omega)
    have hbi := hbt i (by omega)
    refine go _ ?_
    refine ro_loadAgg (s := 2) rfl rfl rfl (.there .here) (by omega) rfl ?_
    rw [tab3 (a := .int .u8 (sy i : Nat)) (b := .int .u8 (bt i : Nat)) (c := .int .u16 (bs i : Nat)) (by rw [← f1]; congr 1; omega) (by rw [← f2]; congr 1; omega) (by rw [← f3]; congr 1; omega)]
    refine go _ ?_
    refine ro_alloc z157 rfl hex fun eb heb => ?_
    refine go _ ?_
    refine ro_storeAgg (s := 2) (vs := [.int .u8 (sy i : Nat), .int .u8 (bt i : Nat), .int .u16 (bs i : Nat)]) rfl rfl rfl rfl (fun v hv => by simp only [List.mem_cons, List.not_mem_nil, or_false] at hv; rcases hv with rfl | rfl | rfl <;> rfl) .here (Nat.le_refl 3) rfl hex ?_
    refine go _ ?_
    refine ro_build1 (vs := [.int .u32 0, .int .u8 0, .int .u8 (bt i : Nat), .int .u16 (bs i : Nat)]) rfl rfl z144 rfl rfl rfl rfl ?_
    refine go _ ?_
    refine ro_alloc z144 rfl hex fun cb hcb => ?_
    refine go _ ?_
    refine ro_storeAgg (s := 3) (vs := [.int .u32 0, .int .u8 0, .int .u8 (bt i : Nat), .int .u16 (bs i : Nat)]) rfl rfl rfl rfl (fun v hv => by simp only [List.mem_cons, List.not_mem_nil, or_false] at hv; rcases hv with rfl | rfl | rfl | rfl <;> rfl) .here (Nat.le_refl 4) rfl hex ?_
    refine go _ ?_
    refine J_condP rfl (fun hbig => ?_) (fun hsm => ?_)
    · have h0L : 0 < L ∧ 31 < sy 0 := by
        rcases h with h | h
        · have := h i (by omega); omega
        · exact h
      have hi0' : i = 0 := by
        rcases Nat.eq_zero_or_pos i with h | h
        · exact h
        · have := hi0 h; omega
      rw [hg0 hi0'] at *
      refine go _ ?_
      refine ro_callT (merr_t S rb x s _ _) ?_
      rintro v m ⟨⟨b', rfl⟩, rfl⟩
      refine go _ ?_
      refine J_ret ?_
      exact ends_retS [8] (post := [(rb, rdB x s), (fb, FB), (bb, BB)]) (junk := (cb, _) :: (eb, _) :: jk) (by rw [if_pos h0L]; exact ⟨⟨b', rfl⟩, rfl⟩) rfl (.skip (.trans (.of_perm (pA [_, _] [_, _] jk)) (.skip (.cons (by unfold Blk.obj; rw [hBf]; rfl) (.refl _)))))
    · have hp31 : 2 ^ sy i ≤ 2 ^ 31 := Nat.pow_le_pow_right (by omega) (by omega)
      refine go _ ?_
      refine J_joinE (σ := Nat) [0, 1, 3, 9, 10, 11, 12, 13, 14] (fun _ => []) (fun b => (cb, listB [.int .u32 (b : Nat), .int .u8 0, .int .u8 (bt i : Nat), .int .u16 (bs i : Nat)] 144) :: (eb, listB [.int .u8 (sy i : Nat), .int .u8 (bt i : Nat), .int .u16 (bs i : Nat)] 157) :: (rb, rdB x s) :: (fb, FB) :: (bb, ⟨BB.n, g, BB.T, (0, 0)⟩) :: jk) (fun b => b = (sqBase 1 (sy i)).1) ?_ ?_
      · have hb1 : (sqBase 1 (sy i)).1 = 2 ^ sy i - (if 2 ≤ sy i then 3 else 0) := rfl
        refine J_condP rfl (fun h2 => ?_) (fun h2 => ?_)
        · have hp2 : 2 ^ 2 ≤ 2 ^ sy i := Nat.pow_le_pow_right (by omega) (by omega)
          refine go _ ?_
          refine ⟨1 * 2 ^ sy i - 3, by rw [hb1, if_pos (by omega), Nat.one_mul], joined (.cons (blk_tab rfl rfl rfl rfl) (.cons (blk_tab rfl rfl rfl rfl) (.refl _)))⟩
        · refine go _ ?_
          refine ⟨1 * 2 ^ sy i, by rw [hb1, if_neg (by omega), Nat.one_mul, Nat.sub_zero], joined (.cons (blk_tab rfl rfl rfl rfl) (.cons (blk_tab rfl rfl rfl rfl) (.refl _)))⟩
      · rintro _ f rfl
        refine go _ ?_
        refine ro_loadAgg (s := 3) rfl rfl rfl .here (Nat.le_refl 4) rfl ?_
        refine go _ ?_
        refine ro_storeAgg (s := 3) (vs := cellL (sqCell 1 (sy i) (bt i) (bs i))) rfl rfl rfl rfl (fun v hv => by unfold cellL at hv; simp only [List.mem_cons, List.not_mem_nil, or_false] at hv; rcases hv with rfl | rfl | rfl | rfl <;> rfl) (.there (.there (.there (.there .here)))) (by show 0 + i * (3 + 1) + (3 + 1) ≤ BB.n; omega) rfl hex ?_
        refine go _ ?_
        refine ⟨⟨i + 1, blit g (0 + i * (3 + 1)) (3 + 1) (listG (cellL (sqCell 1 (sy i) (bt i) (bs i)))), (cb, _) :: (eb, _) :: jk⟩, by dsimp only; omega, ⟨by dsimp only; omega, SqG.snoc (c := fun p => sqCell 1 (sy p) (bt p) (bs p)) hg (by omega), fun h => absurd h (Nat.succ_ne_zero _), fun _ => ?_⟩, ⟨rfl, rfl, rfl, rfl, rfl, rfl, trivial⟩, .of_perm (pA [_, _] [_, _, _] jk)⟩
        by_cases h0 : i = 0
        · rw [← h0]; omega
        · exact hi0 (by omega)
  · refine go _ ?_
    refine J_ret ?_
    have hno : ¬ (0 < L ∧ 31 < sy 0) := fun h => by have := hi0 (by omega); omega
    obtain rfl : i = L := by omega
    exact ends_retS [8] (post := [(rb, rdB x s), (fb, FB), (bb, ⟨BB.n, g, BB.T, (0, 0)⟩)]) (junk := jk) (by rw [if_neg hno]; exact ⟨rfl, g, hg, rfl⟩) rfl (.refl _)
end Go.Proofs.YtogmacnlpclgkaaDoor
