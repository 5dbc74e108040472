/-
  TEXTS MERGED: C7.
-/
import Derived.Test.YtogmacnlpclgkaaDoorK25
/-! COMPRESSED BLOCKS 7: readHuff. -/
namespace Go.Proofs.YtogmacnlpclgkaaDoor
open Go Go.Eng Go.Pz
attribute [local irreducible] RO J Trip Quiet
set_option maxRecDepth 20000
variable {G : Mem} {d : Nat → Nat}

theorem probs_ok {N mb mx q log c q' : Nat} {sh : Nat → Int} (h : probs true d N mb mx q = some (log, sh, c, q')) (hmb : mb ≤ 9) : 5 ≤ log ∧ log ≤ mb ∧ Fills sh (mx + 1) (2 ^ log) ∧ q' ≤ 8 * N := by
  unfold probs at h
  rw [if_pos (rfl : true = true)] at h
  by_cases h1 : 8 * N < q + 16
  · rw [if_pos h1] at h; cases h
  · rw [if_neg h1] at h
    dsimp only at h
    by_cases h2 : mb < bitsAt d q 4 + 5
    · rw [if_pos h2] at h; cases h
    · rw [if_neg h2] at h
      obtain ⟨⟨sh1, c1, q1⟩, h3, h4⟩ := Option.map_eq_some_iff.1 h
      obtain ⟨hlog, h4⟩ := Prod.mk.inj h4
      subst hlog
      simp only [Prod.mk.injEq] at h4
      obtain ⟨-, rfl, rfl, rfl⟩ := h4
      have h5 : 2 ^ (bitsAt d q 4 + 5) ≤ 2 ^ 9 := Nat.pow_le_pow_right (by omega) (by omega)
      have h6 := Nat.two_pow_pos (bitsAt d q 4 + 5)
      obtain ⟨f1, f2, f3, f4, _, f5⟩ := fseLoop_ok h3 (by omega) (Nat.zero_le _) (fun _ _ => rfl) (fun _ => by show (-1 : Int) ≤ 0; decide)
      exact ⟨by omega, by omega, Fills.zeros (c := c1) ⟨SizeOk.of_log (by omega) (by omega), fun s _ => f4 s, by rw [f1]; show 0 + 0 + 2 ^ _ = _; omega⟩ f2 f3, (f5 (by omega)).2⟩


theorem symTab_lt {sh : Nat → Int} {n size p : Nat} (f : Fills sh n size) (hp : p < size) : symTab sh n size p < n := by
  by_cases h : p < size - negCnt sh n
  · exact (symTab_low f h).1
  · exact (symTab_high h hp).1

/-- A step of the loop. -/
theorem hufLoop_end {sym bt bs : Nat → Nat} {start k a s1 s2 c : Nat} {w : Nat → Nat} (h : ¬ rvC start a (bt s1)) (hk : k ≠ 0) : hufLoop sym bt bs d start k a s1 s2 w c = if 254 ≤ c then none else some (updN (updN w c (sym s1)) (c + 1) (sym s2), c + 2) := by
  obtain ⟨k, rfl⟩ : ∃ k', k = k' + 1 := ⟨k - 1, by omega⟩
  rw [hufLoop, if_pos h]
theorem hufLoop_step {sym bt bs : Nat → Nat} {start k a s1 s2 c : Nat} {w : Nat → Nat} (h : rvC start a (bt s1)) (hc : c < 255) : hufLoop sym bt bs d start (k + 1) a s1 s2 w c = hufLoop sym bt bs d start k (a - bt s1) s2 (bs s1 + rvV d a (bt s1)) (updN w c (sym s1)) (c + 1) := by
  rw [hufLoop, if_neg (fun x => x h), if_neg (by omega)]
theorem hufLoop_full {sym bt bs : Nat → Nat} {start k a s1 s2 c : Nat} {w : Nat → Nat} (h : rvC start a (bt s1)) (hc : 255 ≤ c) (hk : k ≠ 0) : hufLoop sym bt bs d start k a s1 s2 w c = none := by
  obtain ⟨k, rfl⟩ : ∃ k', k = k' + 1 := ⟨k - 1, by omega⟩
  rw [hufLoop, if_neg (fun x => x h), if_pos hc]

structure HuS where
  a : Nat
  B : Nat
  s1 : Nat
  s2 : Nat
  w : Nat → Nat
  c : Nat

set_option maxHeartbeats 3000000 in
theorem readHuff_t (S : Sent G) (rb hb : Nat) (x : Int) (s : RS) (da : Option Addr) (n cp : Nat) (hd : ∀ i, d i < 256) (hv : View G da n cp d) (hn : n ≤ 2 ^ 20) (off : Nat) (old : Nat → Nat) (fm : Mem) (hoff : off ≤ 2 ^ 20) (hfs : FsM s.fs fm) :
    Trip Tryd.prog G 70 #[.pointer (some ⟨rb, 0, none⟩), .slice da n cp, .int .i64 (off : Nat), .slice (some ⟨hb, 0, none⟩) 2048 2048] ((rb, rdB x s) :: (hb, arrB .u16 2048 old 104) :: fm) (fun v m => ∃ fs' fm', FsM fs' fm' ∧
      match hufRead d n off old with
      | some (g, b, q) => v = .tuple #[.int .i64 (b : Nat), .int .i64 (q : Nat), .nilIface] ∧ m = (rb, rdB x (s.wFs fs')) :: (hb, arrB .u16 2048 g 104) :: fm'
      | none => ∃ e, v = .tuple #[.int .i64 0, .int .i64 0, e] ∧ ErrB S e ∧ m = (rb, rdB x (s.wFs fs')) :: (hb, arrB .u16 2048 old 104) :: fm') := by
  refine Trip_of Tryd.func70 rfl (by show 4 ≤ _; decide) (args := [.pointer (some ⟨rb, 0, none⟩), .slice da n cp, .int .i64 (off : Nat), .slice (some ⟨hb, 0, none⟩) 2048 2048]) fun c h0 hex => ?_
  have hnone : hufW d n off = none → hufRead d n off old = none := fun h => by unfold hufRead; rw [h]
  refine go _ ?_
  refine J_condP rfl (fun hbig => ?_) (fun hlt => ?_)
  · have hW : hufW d n off = none := by unfold hufW; rw [if_pos (by omega)]
    rw [hnone hW]
    refine go _ ?_
    refine ro_callT (meof_t S rb x s _) ?_
    rintro v m ⟨⟨b', rfl⟩, rfl⟩
    refine go _ ?_
    refine J_ret ?_
    exact ends_retS [8, 9, 10] (post := (rb, rdB x s) :: (hb, arrB .u16 2048 old 104) :: fm) ⟨s.fs, fm, hfs, _, rfl, .inl ⟨b', rfl⟩, rfl⟩
  · have hoff' : off < n := by omega
    obtain ⟨b0, o0, rfl⟩ := hv.some (by omega)
    obtain ⟨hdr, hhdr⟩ : ∃ hdr, hdr = d off := ⟨_, rfl⟩
    have hh := hd off
    rw [← hhdr] at hh
    refine go _ ?_
    rw [← hhdr]
    refine go _ ?_
    refine ro_alloc z163 rfl hex fun wb hwb => ?_
    refine go _ ?_
    refine J_eqv (m' := (wb, arrB .u8 256 (fun _ => 0) 163) :: (rb, rdB x s) :: (hb, arrB .u16 2048 old 104) :: fm) (.cons (blk_tab rfl rfl rfl rfl) (.refl _)) ?_
    refine J_joinE (σ := ((Nat → Nat) × Nat × Nat) × Value × Mem × Mem) [0, 3, 12] (fun t => [(2, .int .i64 (t.1.2.2 : Nat)), (13, .int .i64 (t.1.2.1 : Nat))]) (fun t => (wb, arrB .u8 256 t.1.1 163) :: (rb, rdB x (s.wFs t.2.1)) :: (hb, arrB .u16 2048 old 104) :: (t.2.2.1 ++ t.2.2.2))
      (fun t => hufW d n off = some t.1 ∧ (∀ i, t.1.1 i < 256) ∧ t.1.2.1 ≤ 255 ∧ FsM t.2.1 t.2.2.1) ?_ ?_
    · refine J_condP rfl (fun hf => ?_) (fun hdir => ?_)
      · refine J_seq ?_
        refine J_joinE (σ := Nat × (Nat → Value) × Nat × Nat × Nat) [0, 1, 2, 3, 11, 12, 13] (fun _ => []) (fun t => [(wb, arrB .u8 256 (fun _ => 0) 163), (rb, rdB x (s.wFs (.slice (some ⟨t.1, 0, none⟩) t.2.2.1 t.2.2.2.1))), (hb, arrB .u16 2048 old 104), (t.1, ⟨t.2.2.2.2, t.2.1, 157, (0, 0)⟩)]) (fun t => 64 ≤ t.2.2.1 ∧ t.2.2.1 ≤ t.2.2.2.1 ∧ t.2.2.2.1 * 3 ≤ t.2.2.2.2) ?_ ?_
        · rcases hfs with ⟨hfs, rfl⟩ | ⟨fb, g0, fl, fc, fk, hfs, hlc, hck, rfl⟩
          · rw [show rdB x s = rdB x (s.wFs (.slice none 0 0)) by rw [← hfs]]
            refine go _ ?_
            refine J_condP rfl (fun _ => ?_) (fun h => absurd h (by decide))
            refine go _ ?_
            refine ro_make rfl rfl rfl rfl z157 (by decide) (Nat.le_refl _) (by decide) hex rfl fun fb hfb => ?_
            refine go _ ?_
            refine ⟨(fb, zerosG [.int .u8 0, .int .u8 0, .int .u16 0], 64, 64, 192), ⟨Nat.le_refl _, Nat.le_refl _, Nat.le_refl _⟩, joined ?_⟩
            exact MEqv.trans (.of_perm (List.perm_append_comm (l₁ := [_]) (l₂ := [_, _, _]))) (.skip (.cons (blk_tab rfl rfl rfl rfl) (.refl _)))
          · rw [show rdB x s = rdB x (s.wFs (.slice (some ⟨fb, 0, none⟩) fl fc)) by rw [← hfs]]
            refine go _ ?_
            refine J_condP rfl (fun _ => ?_) (fun hge => ?_)
            · refine J_eqv (m' := [(wb, arrB .u8 256 (fun _ => 0) 163), (rb, rdB x (s.wFs (.slice (some ⟨fb, 0, none⟩) fl fc))), (hb, arrB .u16 2048 old 104)] ++ [(fb, ⟨fk, g0, 157, (0, 0)⟩)]) (.refl _) (J_drop ?_)
              refine go _ ?_
              refine ro_make rfl rfl rfl rfl z157 (by decide) (Nat.le_refl _) (by decide) hex rfl fun fb hfb => ?_
              refine go _ ?_
              refine ⟨(fb, zerosG [.int .u8 0, .int .u8 0, .int .u16 0], 64, 64, 192), ⟨Nat.le_refl _, Nat.le_refl _, Nat.le_refl _⟩, joined ?_⟩
              exact MEqv.trans (.of_perm (List.perm_append_comm (l₁ := [_]) (l₂ := [_, _, _]))) (.skip (.cons (blk_tab rfl rfl rfl rfl) (.refl _)))
            · refine go _ ?_
              exact ⟨(fb, g0, fl, fc, fk), ⟨by dsimp only; omega, hlc, hck⟩, joined (.refl _)⟩
        · rintro ⟨fb, g0, fl, fc, fk⟩ f ⟨h64, hlc, hck⟩
          dsimp only at h64 hlc hck
          refine go _ ?_
          dsimp only
          refine ro_callT (readFSE_t S rb fb x (s.wFs (.slice (some ⟨fb, 0, none⟩) fl fc)) _ n cp hd hv hn (off + 1) 255 6 fl fc ⟨fk, g0, 157, (0, 0)⟩ (by omega) (by decide) (by decide) (by show 64 ≤ fl; omega) hlc (by show fl * 3 ≤ fk; omega) rfl) ?_
          rintro v m hvm
          cases hP : probs true d n 6 255 (8 * (off + 1)) with
          | none =>
            rw [hP] at hvm
            obtain ⟨e, rfl, ⟨b', rfl⟩, rfl⟩ := hvm
            have hW : hufW d n off = none := by
              unfold hufW
              rw [if_neg (by omega), ← hhdr, if_pos (by omega)]
              unfold hufFse
              rw [hP]
              rfl
            rw [hnone hW]
            refine go _ ?_
            refine J_ret ?_
            exact ends_retS [8, 9, 10] (post := [(rb, rdB x (s.wFs (.slice (some ⟨fb, 0, none⟩) fl fc))), (hb, arrB .u16 2048 old 104), (fb, _)]) ⟨_, _, .inr ⟨fb, g0, fl, fc, fk, rfl, hlc, hck, rfl⟩, _, rfl, .inl ⟨b', rfl⟩, rfl⟩
          | some P =>
            obtain ⟨log, sh, cx, q⟩ := P
            rw [hP] at hvm
            dsimp only at hvm
            obtain ⟨rfl, g1, rfl, hg1, _⟩ := hvm
            obtain ⟨p1, p2, p3, p4⟩ := probs_ok hP (by omega)
            have p3 : Fills sh 256 (2 ^ log) := p3
            have hg1 : FseG g1 sh 256 log := hg1
            have hlp : 2 ^ log ≤ 2 ^ 6 := Nat.pow_le_pow_right (by omega) (by omega)
            have hW : hufW d n off = (hufFse d n (off + 1) hdr).map fun r => (r.1, r.2, off + 1 + hdr) := by
              unfold hufW
              rw [if_neg (by omega), ← hhdr, if_pos (by omega)]
            have hF : hufFse d n (off + 1) hdr = if n < off + 1 + hdr then none else if d (off + 1 + hdr - 1) = 0 then none else
                let a := 8 * (off + 1 + hdr - 1) + Nat.log2 (d (off + 1 + hdr - 1))
                let st := (q + 7) / 8
                if ¬ rvC st a log then none
                else if ¬ rvC st (a - log) log then none
                else hufLoop (symTab sh 256 (2 ^ log)) (cellBits sh 256 log) (cellBase sh 256 log) d st 256 (a - log - log) (rvV d a log) (rvV d (a - log) log) (fun _ => 0) 0 := by
              unfold hufFse
              rw [hP]
            refine go _ ?_
            refine J_condP rfl (fun hsh => ?_) (fun hok => ?_)
            · have hFn : hufFse d n (off + 1) hdr = none := by rw [hF, if_pos (by omega)]
              rw [hnone (by rw [hW, hFn]; rfl)]
              refine go _ ?_
              refine ro_callT (meof_t S rb x (s.wFs (.slice (some ⟨fb, 0, none⟩) fl fc)) _) ?_
              rintro v m ⟨⟨b', rfl⟩, rfl⟩
              refine go _ ?_
              refine J_ret ?_
              exact ends_retS [8, 9, 10] (post := [(rb, rdB x (s.wFs (.slice (some ⟨fb, 0, none⟩) fl fc))), (hb, arrB .u16 2048 old 104), (fb, ⟨fk, g1, 157, (0, 0)⟩)]) ⟨_, _, .inr ⟨fb, g1, fl, fc, fk, rfl, hlc, hck, rfl⟩, _, rfl, .inl ⟨b', rfl⟩, rfl⟩
            · rw [if_neg (by omega)] at hF
              have hret : hufFse d n (off + 1) hdr = none → ∀ e, ErrV S .z e → ∃ fs' fm', FsM fs' fm' ∧ (match hufRead d n off old with
                | some (g, b, q) => Value.tuple #[.int .i64 0, .int .i64 0, e] = .tuple #[.int .i64 (b : Nat), .int .i64 (q : Nat), .nilIface] ∧ [(rb, rdB x (s.wFs (.slice (some ⟨fb, 0, none⟩) fl fc))), (hb, arrB .u16 2048 old 104), (fb, ⟨fk, g1, 157, (0, 0)⟩)] = (rb, rdB x (s.wFs fs')) :: (hb, arrB .u16 2048 g 104) :: fm'
                | none => ∃ e', Value.tuple #[.int .i64 0, .int .i64 0, e] = .tuple #[.int .i64 0, .int .i64 0, e'] ∧ ErrB S e' ∧ [(rb, rdB x (s.wFs (.slice (some ⟨fb, 0, none⟩) fl fc))), (hb, arrB .u16 2048 old 104), (fb, ⟨fk, g1, 157, (0, 0)⟩)] = (rb, rdB x (s.wFs fs')) :: (hb, arrB .u16 2048 old 104) :: fm') := fun h e he => by
                  refine ⟨_, [(fb, _)], .inr ⟨fb, g1, fl, fc, fk, rfl, hlc, hck, rfl⟩, ?_⟩
                  rw [hnone (by rw [hW, h]; rfl)]
                  exact ⟨_, rfl, .inl he, rfl⟩
              refine go _ ?_
              refine ro_callT (mkrv_t S rb x (s.wFs (.slice (some ⟨fb, 0, none⟩) fl fc)) _ n cp hd hv hn (off + 1 + hdr - 1) ((q + 7) / 8) (by omega) (by omega)) ?_
              rintro v m ⟨rfl, hv2⟩
              by_cases hz : d (off + 1 + hdr - 1) = 0
              · rw [if_pos hz] at hv2 hF
                obtain ⟨e, rfl, ⟨b', rfl⟩⟩ := hv2
                refine go _ ?_
                refine ro_alloc z137 rfl hex fun vb hvb => ?_
                refine go _ ?_
                refine ro_storeAgg (s := 5) (vs := [.pointer none, .slice none 0 0, .int .u32 0, .int .u32 0, .int .u32 0, .int .u32 0]) rfl rfl rfl rfl (fun v hv => by simp only [List.mem_cons, List.not_mem_nil, or_false] at hv; rcases hv with rfl | rfl | rfl | rfl | rfl | rfl <;> rfl) .here (Nat.le_refl 6) rfl hex ?_
                refine go _ ?_
                refine J_ret ?_
                exact ends_retS [8, 9, 10] (post := [(rb, rdB x (s.wFs (.slice (some ⟨fb, 0, none⟩) fl fc))), (hb, arrB .u16 2048 old 104), (fb, ⟨fk, g1, 157, (0, 0)⟩)]) (hret hF _ ⟨b', rfl⟩)
              · rw [if_neg hz] at hv2 hF
                subst hv2
                obtain ⟨i1, i2, i3⟩ := RvOk.init (d := d) hd hz
                obtain ⟨o, ho⟩ : ∃ o, o = off + 1 + hdr - 1 := ⟨_, rfl⟩
                rw [← ho] at hF i1 i2 i3 ⊢
                obtain ⟨a, ha⟩ : ∃ a, a = 8 * o + Nat.log2 (d o) := ⟨_, rfl⟩
                obtain ⟨st, hst⟩ : ∃ st, st = (q + 7) / 8 := ⟨_, rfl⟩
                dsimp only at hF
                rw [← ha, ← hst] at hF
                rw [← ha] at i1 i2 i3
                rw [← hst]
                refine go _ ?_
                refine ro_alloc z137 rfl hex fun vb hvb => ?_
                refine go _ ?_
                refine ro_storeAgg (s := 5) (vs := [.pointer (some ⟨rb, 0, none⟩), .slice (some ⟨b0, o0, none⟩) n cp, .int .u32 (o : Nat), .int .u32 (st : Nat), .int .u32 (d o : Nat), .int .u32 (Nat.log2 (d o) : Nat)]) rfl rfl rfl rfl (fun v hv => by simp only [List.mem_cons, List.not_mem_nil, or_false] at hv; rcases hv with rfl | rfl | rfl | rfl | rfl | rfl <;> rfl) .here (Nat.le_refl 6) rfl hex ?_
                refine go _ ?_
                refine RO_eqv (m' := (vb, rvS rb (some ⟨b0, o0, none⟩) n cp st a (d o)) :: [(rb, rdB x (s.wFs (.slice (some ⟨fb, 0, none⟩) fl fc))), (fb, ⟨fk, g1, 157, (0, 0)⟩), (wb, arrB .u8 256 (fun _ => 0) 163), (hb, arrB .u16 2048 old 104)]) (.cons (by unfold rvS; rw [i2, i3]; exact blk_tab rfl rfl rfl rfl) (.refl _)) (fun _ h => J_eqv (.cons (by unfold rvS; rw [i2, i3]; exact blk_tab rfl rfl rfl rfl) (.refl _)) h) ?_
                refine ro_callT (rval_t S vb rb x (s.wFs (.slice (some ⟨fb, 0, none⟩) fl fc)) _ n cp hd hv hn a (d o) st log i1 (by omega) (by omega) (by omega)) ?_
                rintro v m (⟨u1, rfl, u2, B1, u3, u4, rfl⟩ | ⟨u1, ⟨e, rfl, ⟨b', rfl⟩⟩, of, B', k', u2, rfl⟩)
                · rw [if_neg (fun h => h u1)] at hF
                  refine go _ ?_
                  refine ro_callT (rval_t S vb rb x (s.wFs (.slice (some ⟨fb, 0, none⟩) fl fc)) _ n cp hd hv hn (a - log) B1 st log u3 (by omega) (by omega) (by omega)) ?_
                  rintro v m (⟨w1, rfl, w2, B2, w3, w4, rfl⟩ | ⟨w1, ⟨e, rfl, ⟨b', rfl⟩⟩, of, B', k', w2, rfl⟩)
                  · rw [if_neg (fun h => h w1)] at hF
                    obtain ⟨E, hE⟩ : ∃ E, E = hufFse d n (off + 1) hdr := ⟨_, rfl⟩
                    rw [← hE] at hF hret
                    have hv1 := rvV_lt d a log
                    have hv2 := rvV_lt d (a - log) log
                    refine go _ ?_
                    refine J_loopL (σ := HuS) [0, 2, 3, 11, 12, 17, 18] (fun t => [(13, .int .i64 (t.c : Nat)), (19, .int .u32 (t.s1 : Nat)), (20, .int .u32 (t.s2 : Nat))]) (fun t => [(vb, rvS rb (some ⟨b0, o0, none⟩) n cp st t.a t.B), (rb, rdB x (s.wFs (.slice (some ⟨fb, 0, none⟩) fl fc))), (fb, ⟨fk, g1, 157, (0, 0)⟩), (wb, arrB .u8 256 t.w 163), (hb, arrB .u16 2048 old 104)])
                      (fun t => RvOk d t.a (t.a % 8) t.B ∧ t.a / 8 ≤ n ∧ t.s1 < 2 ^ log ∧ t.s2 < 2 ^ log ∧ t.c ≤ 255 ∧ (∀ i, t.w i < 256) ∧ hufLoop (symTab sh 256 (2 ^ log)) (cellBits sh 256 log) (cellBase sh 256 log) d st (256 - t.c) t.a t.s1 t.s2 t.w t.c = E) (fun t => 256 - t.c) ⟨a - log - log, B2, rvV d a log, rvV d (a - log) log, fun _ => 0, 0⟩ ?_ ⟨w3, w4, hv1, hv2, Nat.zero_le _, fun _ => Nat.two_pow_pos 8, hF.symm⟩ ?_
                    · exact .skip (.skip (.skip (.refl _)))
                    clear hv1 hv2 w1 w2 w3 w4 B2 u1 u2 u3 u4 B1 i1 i2 i3
                    rintro ⟨a, B, s1, s2, w, c1⟩ f ⟨j1, j2, j3, j4, j5, j6, j7⟩
                    dsimp only at j1 j2 j3 j4 j5 j6 j7 ⊢
                    obtain ⟨c3, c4, c5⟩ := hg1 s1 j3
                    obtain ⟨c6, c7, c8⟩ := hg1 s2 j4
                    obtain ⟨_, k1, k2⟩ := cell_ok p3 j3
                    obtain ⟨_, k3, k4⟩ := cell_ok p3 j4
                    have hsy1 := symTab_lt p3 j3
                    have hsy2 := symTab_lt p3 j4
                    refine go _ ?_
                    refine ro_loadI (v := .int .u8 (cellBits sh 256 log s1 : Nat)) rfl rfl (.there (.there .here)) (by show _ < fk; omega) (by show g1 (0 + s1 * (2 + 1) + 1) = _; rw [show 0 + s1 * (2 + 1) + 1 = s1 * 3 + 1 by omega]; exact c4) rfl ?_
                    refine go _ ?_
                    have ht := fetch_t (G := G) vb rb _ n cp hd hv hn a (a % 8) B st (cellBits sh 256 log s1) j1 (by omega) (by omega) (by omega) (by omega)
                    rw [show (a - a % 8) / 8 = a / 8 by omega] at ht
                    refine ro_callT ht ?_
                    clear ht
                    rintro v m (⟨h1, rfl, k', B', h2, h3, h4, h6, rfl⟩ | ⟨h1, rfl, of, B', k', h2, rfl⟩) <;> rw [List.cons_append, List.nil_append]
                    · refine go _ ?_
                      refine ro_loadI (v := .int .u8 (cellBits sh 256 log s1 : Nat)) rfl rfl (.there (.there .here)) (by show _ < fk; omega) (by show g1 (0 + s1 * (2 + 1) + 1) = _; rw [show 0 + s1 * (2 + 1) + 1 = s1 * 3 + 1 by omega]; exact c4) rfl ?_
                      refine go _ ?_
                      refine ro_callT (rval2_t (d := d) vb rb x (s.wFs (.slice (some ⟨fb, 0, none⟩) fl fc)) _ n cp hd hv hn a k' B' st (cellBits sh 256 log s1) h4 h6 (by omega) (by omega) (by omega) h2 (by omega)) ?_
                      rintro v m ⟨rfl, x1, B2, x2, x3, rfl⟩
                      try rw [List.cons_append, List.cons_append, List.nil_append]
                      have hvl := rvV_lt d a (cellBits sh 256 log s1)
                      refine go _ ?_
                      refine ro_loadI (v := .int .u16 (cellBase sh 256 log s1 : Nat)) rfl rfl (.there (.there .here)) (by show _ < fk; omega) (by show g1 (0 + s1 * (2 + 1) + 2) = _; rw [show 0 + s1 * (2 + 1) + 2 = s1 * 3 + 2 by omega]; exact c5) rfl ?_
                      refine go _ ?_
                      refine J_condP rfl (fun hfull => ?_) (fun hroom => ?_)
                      · have hEn : E = none := by rw [← j7]; exact hufLoop_full h1 (by omega) (by omega)
                        refine go _ ?_
                        refine ro_callT (rvErr_t S vb rb x (s.wFs (.slice (some ⟨fb, 0, none⟩) fl fc)) _ n cp ((a - cellBits sh 256 log s1) / 8) st _ _ (by omega) _) ?_
                        rintro v m ⟨⟨b', rfl⟩, rfl⟩
                        refine go _ ?_
                        refine J_ret ?_
                        exact ends_retS [8, 9, 10] (post := [(rb, rdB x (s.wFs (.slice (some ⟨fb, 0, none⟩) fl fc))), (hb, arrB .u16 2048 old 104), (fb, ⟨fk, g1, 157, (0, 0)⟩)]) (hret hEn _ ⟨b', rfl⟩)
                      · refine go _ ?_
                        refine ro_loadI (v := .int .u8 (symTab sh 256 (2 ^ log) s1 : Nat)) rfl rfl (.there (.there .here)) (by show _ < fk; omega) (by show g1 (0 + s1 * (2 + 1) + 0) = _; rw [show 0 + s1 * (2 + 1) + 0 = s1 * 3 by omega]; exact c3) rfl ?_
                        refine go _ ?_
                        rw [show 0 + c1 = c1 from Nat.zero_add c1]
                        obtain ⟨sn, hsn⟩ : ∃ sn, sn = cellBase sh 256 log s1 + rvV d a (cellBits sh 256 log s1) := ⟨_, rfl⟩
                        obtain ⟨a2, ha2⟩ : ∃ a2, a2 = a - cellBits sh 256 log s1 := ⟨_, rfl⟩
                        obtain ⟨w2, hw2⟩ : ∃ w2, w2 = updN w c1 (symTab sh 256 (2 ^ log) s1) := ⟨_, rfl⟩
                        have j8 : hufLoop (symTab sh 256 (2 ^ log)) (cellBits sh 256 log) (cellBase sh 256 log) d st (256 - (c1 + 1)) a2 s2 sn w2 (c1 + 1) = E := by
                          rw [← j7, show 256 - c1 = (256 - (c1 + 1)) + 1 by omega, hufLoop_step h1 (by omega), ← hsn, ← ha2, ← hw2]
                        have j9 : ∀ i, w2 i < 256 := fun i => by
                          rw [hw2]
                          unfold updN
                          split
                          · omega
                          · exact j6 i
                        have hsnl : sn < 2 ^ log := by omega
                        obtain ⟨e3, e4, e5⟩ := hg1 sn hsnl
                        have hsy3 := symTab_lt p3 hsnl
                        rw [← ha2] at x2 x3 ⊢
                        rw [← hsn, ← hw2]
                        clear hsn hw2 h1 h2 h3 h4 h6 j1 j7 hvl
                        refine go _ ?_
                        refine ro_loadI (v := .int .u8 (cellBits sh 256 log s2 : Nat)) rfl rfl (.there (.there .here)) (by show _ < fk; omega) (by show g1 (0 + s2 * (2 + 1) + 1) = _; rw [show 0 + s2 * (2 + 1) + 1 = s2 * 3 + 1 by omega]; exact c7) rfl ?_
                        refine go _ ?_
                        have ht := fetch_t (G := G) vb rb _ n cp hd hv hn a2 (a2 % 8) B2 st (cellBits sh 256 log s2) x2 (by omega) (by omega) (by omega) (by omega)
                        rw [show (a2 - a2 % 8) / 8 = a2 / 8 by omega] at ht
                        refine ro_callT ht ?_
                        clear ht
                        rintro v m (⟨h1, rfl, k', B', h2, h3, h4, h6, rfl⟩ | ⟨h1, rfl, of, B', k', h2, rfl⟩) <;> rw [List.cons_append, List.nil_append]
                        · refine go _ ?_
                          refine ro_loadI (v := .int .u8 (cellBits sh 256 log s2 : Nat)) rfl rfl (.there (.there .here)) (by show _ < fk; omega) (by show g1 (0 + s2 * (2 + 1) + 1) = _; rw [show 0 + s2 * (2 + 1) + 1 = s2 * 3 + 1 by omega]; exact c7) rfl ?_
                          refine go _ ?_
                          refine ro_callT (rval2_t (d := d) vb rb x (s.wFs (.slice (some ⟨fb, 0, none⟩) fl fc)) _ n cp hd hv hn a2 k' B' st (cellBits sh 256 log s2) h4 h6 (by omega) (by omega) (by omega) h2 (by omega)) ?_
                          rintro v m ⟨rfl, x1, B3, x4, x5, rfl⟩
                          try rw [List.cons_append, List.cons_append, List.nil_append]
                          try rw [List.cons_append, List.cons_append, List.nil_append]
                          have hvl := rvV_lt d a2 (cellBits sh 256 log s2)
                          refine go _ ?_
                          refine ro_loadI (v := .int .u16 (cellBase sh 256 log s2 : Nat)) rfl rfl (.there (.there .here)) (by show _ < fk; omega) (by show g1 (0 + s2 * (2 + 1) + 2) = _; rw [show 0 + s2 * (2 + 1) + 2 = s2 * 3 + 2 by omega]; exact c8) rfl ?_
                          refine go _ ?_
                          refine J_condP rfl (fun hfull => ?_) (fun hroom => ?_)
                          · have hEn : E = none := by rw [← j8]; exact hufLoop_full h1 (by omega) (by omega)
                            refine go _ ?_
                            refine ro_callT (rvErr_t S vb rb x (s.wFs (.slice (some ⟨fb, 0, none⟩) fl fc)) _ n cp ((a2 - cellBits sh 256 log s2) / 8) st _ _ (by omega) _) ?_
                            rintro v m ⟨⟨b', rfl⟩, rfl⟩
                            refine go _ ?_
                            refine J_ret ?_
                            exact ends_retS [8, 9, 10] (post := [(rb, rdB x (s.wFs (.slice (some ⟨fb, 0, none⟩) fl fc))), (hb, arrB .u16 2048 old 104), (fb, ⟨fk, g1, 157, (0, 0)⟩)]) (hret hEn _ ⟨b', rfl⟩)
                          · refine go _ ?_
                            refine ro_loadI (v := .int .u8 (symTab sh 256 (2 ^ log) s2 : Nat)) rfl rfl (.there (.there .here)) (by show _ < fk; omega) (by show g1 (0 + s2 * (2 + 1) + 0) = _; rw [show 0 + s2 * (2 + 1) + 0 = s2 * 3 by omega]; exact c6) rfl ?_
                            refine go _ ?_
                            obtain ⟨sm, hsm⟩ : ∃ sm, sm = cellBase sh 256 log s2 + rvV d a2 (cellBits sh 256 log s2) := ⟨_, rfl⟩
                            rw [← hsm]
                            refine ⟨⟨a2 - cellBits sh 256 log s2, B3, sn, sm, updN w2 (c1 + 1) (symTab sh 256 (2 ^ log) s2), c1 + 1 + 1⟩, by dsimp only; omega, ⟨x4, x5, hsnl, by dsimp only; omega, by dsimp only; omega, fun i => ?_, ?_⟩, ⟨rfl, rfl, rfl, rfl, rfl, rfl, rfl, rfl, rfl, rfl, trivial⟩, ?_⟩
                            · dsimp only
                              unfold updN
                              split
                              · omega
                              · exact j9 i
                            · dsimp only
                              rw [← j8, show 256 - (c1 + 1) = (256 - (c1 + 1 + 1)) + 1 by omega, hufLoop_step h1 (by omega), ← hsm]
                            · simp only [Nat.zero_add]
                              exact .refl _
                        · refine go _ ?_
                          refine J_condP rfl (fun hfull => ?_) (fun hroom => ?_)
                          · have hEn : E = none := by rw [← j8, hufLoop_end h1 (by omega), if_pos (by omega)]
                            refine go _ ?_
                            refine ro_callT (rvErr_t S vb rb x (s.wFs (.slice (some ⟨fb, 0, none⟩) fl fc)) _ n cp of st _ _ h2 _) ?_
                            rintro v m ⟨⟨b', rfl⟩, rfl⟩
                            refine go _ ?_
                            refine J_ret ?_
                            exact ends_retS [8, 9, 10] (post := [(rb, rdB x (s.wFs (.slice (some ⟨fb, 0, none⟩) fl fc))), (hb, arrB .u16 2048 old 104), (fb, ⟨fk, g1, 157, (0, 0)⟩)]) (hret hEn _ ⟨b', rfl⟩)
                          · refine go _ ?_
                            refine ro_loadI (v := .int .u8 (symTab sh 256 (2 ^ log) s2 : Nat)) rfl rfl (.there (.there .here)) (by show _ < fk; omega) (by show g1 (0 + s2 * (2 + 1) + 0) = _; rw [show 0 + s2 * (2 + 1) + 0 = s2 * 3 by omega]; exact c6) rfl ?_
                            refine go _ ?_
                            refine ro_loadI (v := .int .u8 (symTab sh 256 (2 ^ log) sn : Nat)) rfl rfl (.there (.there .here)) (by show _ < fk; omega) (by show g1 (0 + sn * (2 + 1) + 0) = _; rw [show 0 + sn * (2 + 1) + 0 = sn * 3 by omega]; exact e3) rfl ?_
                            refine go _ ?_
                            have hEs : E = some (updN (updN w2 (c1 + 1) (symTab sh 256 (2 ^ log) s2)) ((c1 + 1) + 1) (symTab sh 256 (2 ^ log) sn), (c1 + 1) + 2) := by rw [← j8, hufLoop_end h1 (by omega), if_neg (by omega)]
                            refine ⟨((updN (updN w2 (c1 + 1) (symTab sh 256 (2 ^ log) s2)) ((c1 + 1) + 1) (symTab sh 256 (2 ^ log) sn), (c1 + 1) + 2, off + 1 + hdr), .slice (some ⟨fb, 0, none⟩) fl fc, [(fb, ⟨fk, g1, 157, (0, 0)⟩)], [(vb, rvB rb (some ⟨b0, o0, none⟩) n cp of st B' k')]), ⟨by rw [hW, ← hE, hEs]; rfl, fun i => ?_, by dsimp only; omega, .inr ⟨fb, g1, fl, fc, fk, rfl, hlc, hck, rfl⟩⟩, ?_, ?_⟩
                            · dsimp only
                              unfold updN
                              split
                              · omega
                              · split
                                · omega
                                · exact j9 i
                            · exact ⟨rfl, rfl, rfl, rfl, rfl, trivial⟩
                            · simp only [Nat.zero_add]
                              exact (show MEqv _ ([(wb, _), (rb, _), (hb, _), (fb, ⟨fk, g1, 157, (0, 0)⟩)] ++ [(vb, _)]) from by first | exact MEqv.refl _ | (apply SelE.eqv; repeat (first | exact .nil | exact .all | exact .allN | exact .pref | exact .suf | (apply SelE.cons; (first | exact .here (by first | with_reducible rfl | exact blk_tab rfl rfl rfl rfl | exact rfl) | exact .there (.here (by first | with_reducible rfl | exact blk_tab rfl rfl rfl rfl | exact rfl)) | exact .there (.there (.here (by first | with_reducible rfl | exact blk_tab rfl rfl rfl rfl | exact rfl))) | exact .there (.there (.there (.here (by first | with_reducible rfl | exact blk_tab rfl rfl rfl rfl | exact rfl)))) | exact .there (.there (.there (.there (.here (by first | with_reducible rfl | exact blk_tab rfl rfl rfl rfl | exact rfl))))) | exact .there (.there (.there (.there (.there (.here (by first | with_reducible rfl | exact blk_tab rfl rfl rfl rfl | exact rfl)))))) | exact .there (.there (.there (.there (.there (.there (.here (by first | with_reducible rfl | exact blk_tab rfl rfl rfl rfl | exact rfl))))))) | exact .there (.there (.there (.there (.there (.there (.there (.here (by first | with_reducible rfl | exact blk_tab rfl rfl rfl rfl | exact rfl)))))))) | exact .there (.there (.there (.there (.there (.there (.there (.there (.here (by first | with_reducible rfl | exact blk_tab rfl rfl rfl rfl | exact rfl))))))))))) | apply SelE.skip)))
                    · refine go _ ?_
                      refine J_condP rfl (fun hfull => ?_) (fun hroom => ?_)
                      · have hEn : E = none := by rw [← j7, hufLoop_end h1 (by omega), if_pos (by omega)]
                        refine go _ ?_
                        refine ro_callT (rvErr_t S vb rb x (s.wFs (.slice (some ⟨fb, 0, none⟩) fl fc)) _ n cp of st _ _ h2 _) ?_
                        rintro v m ⟨⟨b', rfl⟩, rfl⟩
                        refine go _ ?_
                        refine J_ret ?_
                        exact ends_retS [8, 9, 10] (post := [(rb, rdB x (s.wFs (.slice (some ⟨fb, 0, none⟩) fl fc))), (hb, arrB .u16 2048 old 104), (fb, ⟨fk, g1, 157, (0, 0)⟩)]) (hret hEn _ ⟨b', rfl⟩)
                      · refine go _ ?_
                        refine ro_loadI (v := .int .u8 (symTab sh 256 (2 ^ log) s1 : Nat)) rfl rfl (.there (.there .here)) (by show _ < fk; omega) (by show g1 (0 + s1 * (2 + 1) + 0) = _; rw [show 0 + s1 * (2 + 1) + 0 = s1 * 3 by omega]; exact c3) rfl ?_
                        refine go _ ?_
                        refine ro_loadI (v := .int .u8 (symTab sh 256 (2 ^ log) s2 : Nat)) rfl rfl (.there (.there .here)) (by show _ < fk; omega) (by show g1 (0 + s2 * (2 + 1) + 0) = _; rw [show 0 + s2 * (2 + 1) + 0 = s2 * 3 by omega]; exact c6) rfl ?_
                        refine go _ ?_
                        have hEs : E = some (updN (updN w c1 (symTab sh 256 (2 ^ log) s1)) (c1 + 1) (symTab sh 256 (2 ^ log) s2), c1 + 2) := by rw [← j7, hufLoop_end h1 (by omega), if_neg (by omega)]
                        refine ⟨((updN (updN w c1 (symTab sh 256 (2 ^ log) s1)) (c1 + 1) (symTab sh 256 (2 ^ log) s2), c1 + 2, off + 1 + hdr), .slice (some ⟨fb, 0, none⟩) fl fc, [(fb, ⟨fk, g1, 157, (0, 0)⟩)], [(vb, rvB rb (some ⟨b0, o0, none⟩) n cp of st B' k')]), ⟨by rw [hW, ← hE, hEs]; rfl, fun i => ?_, by dsimp only; omega, .inr ⟨fb, g1, fl, fc, fk, rfl, hlc, hck, rfl⟩⟩, ?_, ?_⟩
                        · dsimp only
                          unfold updN
                          split
                          · omega
                          · split
                            · omega
                            · exact j6 i
                        · exact ⟨rfl, rfl, rfl, rfl, rfl, trivial⟩
                        · simp only [Nat.zero_add]
                          exact (show MEqv _ ([(wb, _), (rb, _), (hb, _), (fb, ⟨fk, g1, 157, (0, 0)⟩)] ++ [(vb, _)]) from by first | exact MEqv.refl _ | (apply SelE.eqv; repeat (first | exact .nil | exact .all | exact .allN | exact .pref | exact .suf | (apply SelE.cons; (first | exact .here (by first | with_reducible rfl | exact blk_tab rfl rfl rfl rfl | exact rfl) | exact .there (.here (by first | with_reducible rfl | exact blk_tab rfl rfl rfl rfl | exact rfl)) | exact .there (.there (.here (by first | with_reducible rfl | exact blk_tab rfl rfl rfl rfl | exact rfl))) | exact .there (.there (.there (.here (by first | with_reducible rfl | exact blk_tab rfl rfl rfl rfl | exact rfl)))) | exact .there (.there (.there (.there (.here (by first | with_reducible rfl | exact blk_tab rfl rfl rfl rfl | exact rfl))))) | exact .there (.there (.there (.there (.there (.here (by first | with_reducible rfl | exact blk_tab rfl rfl rfl rfl | exact rfl)))))) | exact .there (.there (.there (.there (.there (.there (.here (by first | with_reducible rfl | exact blk_tab rfl rfl rfl rfl | exact rfl))))))) | exact .there (.there (.there (.there (.there (.there (.there (.here (by first | with_reducible rfl | exact blk_tab rfl rfl rfl rfl | exact rfl)))))))) | exact .there (.there (.there (.there (.there (.there (.there (.there (.here (by first | with_reducible rfl | exact blk_tab rfl rfl rfl rfl | exact rfl))))))))))) | apply SelE.skip)))
                  · rw [if_pos w1] at hF
                    refine go _ ?_
                    refine J_ret ?_
                    exact ends_retS [8, 9, 10] (post := [(rb, rdB x (s.wFs (.slice (some ⟨fb, 0, none⟩) fl fc))), (hb, arrB .u16 2048 old 104), (fb, ⟨fk, g1, 157, (0, 0)⟩)]) (hret hF _ ⟨b', rfl⟩)
                · rw [if_pos u1] at hF
                  refine go _ ?_
                  refine J_ret ?_
                  exact ends_retS [8, 9, 10] (post := [(rb, rdB x (s.wFs (.slice (some ⟨fb, 0, none⟩) fl fc))), (hb, arrB .u16 2048 old 104), (fb, ⟨fk, g1, 157, (0, 0)⟩)]) (hret hF _ ⟨b', rfl⟩)
      · refine go _ ?_
        obtain ⟨c1, hc1⟩ : ∃ c1, c1 = hdr - 127 := ⟨_, rfl⟩
        rw [← hc1]
        refine J_condP rfl (fun hsh => ?_) (fun hok => ?_)
        · have hW : hufW d n off = none := by
            unfold hufW
            rw [if_neg (by omega), ← hhdr, if_neg (by omega), ← hc1, if_pos (by omega)]
          rw [hnone hW]
          refine go _ ?_
          refine ro_loadA rfl rfl (by simp [S.u0]) S.u0n S.u0g rfl ?_
          refine go _ ?_
          refine J_ret ?_
          exact ends_retS [8, 9, 10] (post := (rb, rdB x s) :: (hb, arrB .u16 2048 old 104) :: fm) ⟨s.fs, fm, hfs, _, rfl, .inr rfl, rfl⟩
        · have hW : hufW d n off = some (hufNib d (off + 1) c1, c1, off + 1 + (c1 + 1) / 2) := by
            unfold hufW
            rw [if_neg (by omega), ← hhdr, if_neg (by omega), ← hc1, if_neg (by omega)]
          refine go _ ?_
          refine J_loopL (σ := Nat) [0, 1, 3, 12, 13] (fun k => [(2, .int .i64 ((off + 1 + k : Nat) : Int)), (24, .int .i64 ((2 * k : Nat) : Int))]) (fun k => (wb, arrB .u8 256 (fun i => if i < 2 * k then (if i % 2 = 0 then d (off + 1 + i / 2) / 16 else d (off + 1 + i / 2) % 16) else 0) 163) :: (rb, rdB x s) :: (hb, arrB .u16 2048 old 104) :: fm)
            (fun k => k ≤ (c1 + 1) / 2) (fun k => c1 - 2 * k) 0 (.refl _) (Nat.zero_le _) ?_
          rintro k f hk
          refine go _ ?_
          refine J_condP rfl (fun hlt2 => ?_) (fun hge2 => ?_)
          · have hdk := hd (off + 1 + k)
            refine go _ ?_
            refine ⟨k + 1, by omega, by omega, ⟨rfl, by show Value.int .i64 _ = Value.int .i64 _; congr 1, rfl, rfl, rfl, rfl, rfl, trivial⟩, .cons ?_ (.refl _)⟩
            refine obj_congr fun i _ => ?_
            show Value.int .u8 ((updN (updN _ _ _) _ _ i : Nat) : Int) = Value.int .u8 ((if i < 2 * (k + 1) then (if i % 2 = 0 then d (off + 1 + i / 2) / 16 else d (off + 1 + i / 2) % 16) else 0 : Nat) : Int)
            congr 2
            simp only [Nat.zero_add]
            by_cases he : i = 2 * k + 1
            · rw [he, updN_same, if_pos (by omega), if_neg (by omega), show (2 * k + 1) / 2 = k by omega]
            · rw [updN_other _ _ _ _ (by omega)]
              by_cases he2 : i = 2 * k
              · rw [he2, updN_same, if_pos (by omega), if_pos (by omega), show 2 * k / 2 = k by omega]
              · rw [updN_other _ _ _ _ (by omega)]
                by_cases hc : i < 2 * k
                · rw [if_pos hc, if_pos (show i < 2 * (k + 1) by omega)]
                · rw [if_neg hc, if_neg (show ¬ i < 2 * (k + 1) by omega)]
          · refine go _ ?_
            refine ⟨((hufNib d (off + 1) c1, c1, off + 1 + (c1 + 1) / 2), s.fs, fm, []), ⟨hW, fun i => ?_, by dsimp only; omega, hfs⟩, ⟨by show Value.int .i64 _ = Value.int .i64 _; congr 1; dsimp only; omega, rfl, rfl, rfl, rfl, trivial⟩, .cons ?_ (by dsimp only; rw [List.append_nil]; exact .refl _)⟩
            · dsimp only
              unfold hufNib
              have := hd (off + 1 + i / 2)
              split
              · split <;> omega
              · omega
            · unfold hufNib
              rw [show 2 * ((c1 + 1) / 2) = 2 * k by omega]
    · rintro ⟨⟨w, c1, q⟩, fs', fm', jk⟩ f ⟨g1, g2, g3, g4⟩
      refine J_cutHere [(0, .pointer (some ⟨rb, 0, none⟩)), (2, .int .i64 (q : Nat)), (3, .slice (some ⟨hb, 0, none⟩) 2048 2048), (12, .pointer (some ⟨wb, 0, none⟩)), (13, .int .i64 (c1 : Nat))] _ ⟨rfl, rfl, rfl, rfl, rfl, trivial⟩ (.refl _) fun f => ?_
      refine hufK S rb wb hb x (s.wFs fs') w c1 q old fm' jk g2 g3 c h0 hex f _ fun v m hvm => ⟨fs', fm', g4, ?_⟩
      unfold hufRead
      rw [g1]
      dsimp only
      cases hT : hufT w c1 with
      | none => rw [hT] at hvm; obtain ⟨e, rfl, he, rfl⟩ := hvm; exact ⟨e, rfl, .inl he, rfl⟩
      | some r => rw [hT] at hvm; exact hvm
end Go.Proofs.YtogmacnlpclgkaaDoor
