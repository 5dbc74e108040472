/-
  TEXTS MERGED: C20.
-/
import Derived.Test.YtogmacnlpclgkaaDoorK13
import Derived.Test.YtogmacnlpclgkaaDoorK32
/-! COMPRESSED BLOCKS 20: setSeqTable for the kind 1. -/
namespace Go.Proofs.YtogmacnlpclgkaaDoor
open Go Go.Eng Go.Pz
attribute [local irreducible] RO J Trip Quiet
set_option maxRecDepth 20000
variable {G : Mem} {d : Nat → Nat}


abbrev RS.w1K (s : RS) (st tb : Value) (sb : Nat) (fs : Value) : RS := { s with st1 := st, tb1 := tb, sb1 := sb, fs := fs }

set_option maxHeartbeats 4000000 in
theorem setTab1_t (S : Sent G)  (rb : Nat) (x : Int) (s : RS) (da : Option Addr) (n cp : Nat) (hd : ∀ i, d i < 256) (hv : View G da n cp d) (hn : n ≤ 2 ^ 20) (off mode : Nat) (hoff : off ≤ n) (hm4 : mode < 4) (st tb : Value) (sb : Nat) (fs : Value) (t : Option STab) (sm fm : Mem) (hs : SqM 1 st tb sb t sm) (hfs : FsM fs fm) :
    Trip Tryd.prog G 65 #[.pointer (some ⟨rb, 0, none⟩), .slice da n cp, .int .i64 (off : Nat), .int .i64 (1 : Nat), .int .u8 (mode : Nat)] ((rb, rdB x (s.w1K st tb sb fs)) :: (sm ++ fm)) (TabR S 1 rb x s.w1K st sb t (setTab t 1 mode d n off)) := by
  refine Trip_of Tryd.func65 rfl (by show 5 ≤ _; decide) (args := [.pointer (some ⟨rb, 0, none⟩), .slice da n cp, .int .i64 (off : Nat), .int .i64 (1 : Nat), .int .u8 (mode : Nat)]) fun c h0 hex => ?_
  refine go _ ?_
  refine ro_callTF (info_t (G := G)) ?_ (fm := (rb, rdB x (s.w1K st tb sb fs)) :: (sm ++ fm)) (hs := .refl _)
  rintro v m ⟨_, _, _, ma, mb, mc, ⟨b0, B0, rfl, rfl, x1, x2, x3⟩, ⟨b1, B1, rfl, rfl, y1, y2, y3⟩, ⟨b2, B2, rfl, rfl, z1, z2, z3⟩, rfl, rfl⟩
  refine go _ ?_
  refine ro_alloc z153 rfl hex fun cb hcb => ?_
  refine go _ ?_
  refine ro_storeAgg (s := 14) (vs := infoL (.slice (some ⟨b0, 0, none⟩) 64 64) (.slice (some ⟨b1, 0, none⟩) 32 32) (.slice (some ⟨b2, 0, none⟩) 64 64)) rfl rfl rfl rfl (fun v hv => by unfold infoL at hv; simp only [List.mem_cons, List.not_mem_nil, or_false] at hv; rcases hv with rfl | rfl | rfl | rfl | rfl | rfl | rfl | rfl | rfl | rfl | rfl | rfl | rfl | rfl | rfl <;> rfl) .here (Nat.le_refl 15) rfl hex ?_
  refine go _ ?_
  obtain ⟨I, hI⟩ : ∃ I, I = listB (infoL (.slice (some ⟨b0, 0, none⟩) 64 64) (.slice (some ⟨b1, 0, none⟩) 32 32) (.slice (some ⟨b2, 0, none⟩) 64 64)) 153 := ⟨_, rfl⟩
  obtain ⟨bm, tm, rfl, hbuf, ht⟩ := hs
  refine J_eqv (m' := (rb, rdB x (s.w1K st tb sb fs)) :: (cb, I) :: (bm ++ (tm ++ (fm ++ [(b0, B0), (b1, B1), (b2, B2)])))) ?_ ?_
  · refine MEqv.trans (.cons (B' := I) (by rw [hI]; exact blk_tab rfl rfl rfl rfl) (.refl _)) (.of_perm ?_)
    exact permA
  rw [hI]
  refine J_condP rfl (fun h0m => ?_) (fun h0m => ?_)
  · have hR : setTab t 1 mode d n off = some (preTab 1, off) := by unfold setTab; rw [if_pos (by omega)]
    rw [hR]
    refine go _ ?_
    refine J_ret ?_
    refine ends_retS [10, 11] (post := (rb, rdB x (s.w1K (.slice (some ⟨b1, 0, none⟩) 32 32) tb 5 fs)) :: ((bm ++ [(b1, B1)]) ++ fm)) (junk := (cb, I) :: (tm ++ [(b0, B0), (b2, B2)])) ?_ rfl ?_
    · exact ⟨_, _, bm ++ [(b1, B1)], _, fm, ⟨bm, [(b1, B1)], rfl, hbuf, rfl, b1, 32, B1, rfl, by simp, y3, Nat.le_of_eq y2.symm, .inr rfl⟩, hfs, rfl, rfl⟩
    · refine MEqv.trans (.cons (B' := rdB x (s.w1K (.slice (some ⟨b1, 0, none⟩) 32 32) tb 5 fs)) (blk_tab rfl rfl rfl rfl) (.cons (B' := I) (congrArg Blk.obj hI.symm) (.refl _))) (.of_perm ?_)
      exact permA
  · refine go _ ?_
    refine J_condP rfl (fun h1m => ?_) (fun h1m => ?_)
    · have hR : setTab t 1 mode d n off = if n ≤ off then none else if sqTop 1 < d off then none else some (rleTab 1 (d off), off + 1) := by unfold setTab; rw [if_neg (by omega), if_pos (by omega)]
      rw [hR]
      refine go _ ?_
      refine J_condP rfl (fun hbig => ?_) (fun hlt => ?_)
      · rw [if_pos (by omega)]
        refine go _ ?_
        refine ro_callT (meof_t S rb x _ _) ?_
        rintro v m ⟨⟨b', rfl⟩, rfl⟩
        refine go _ ?_
        refine J_ret ?_
        refine ends_retS [10, 11] (post := (rb, rdB x (s.w1K st tb sb fs)) :: ((bm ++ tm) ++ fm)) (junk := (cb, I) :: [(b0, B0), (b1, B1), (b2, B2)]) ⟨_, tb, bm ++ tm, fs, fm, ⟨bm, tm, rfl, hbuf, ht⟩, hfs, rfl, ⟨b', rfl⟩, rfl⟩ rfl ?_
        refine MEqv.trans (.cons rfl (.cons (B' := I) (congrArg Blk.obj hI.symm) (.refl _))) (.of_perm ?_)
        exact permA
      · rw [if_neg (by omega)]
        obtain ⟨z0, zo, rfl⟩ := hv.some (by omega)
        have hdo := hd off
        have hcap : 2 ^ sqLog 1 = 256 := rfl
        rcases hbuf with ⟨rfl, rfl⟩ | ⟨bb, bl, BB, rfl, hbl, rfl, hbf, hbn⟩
        · obtain ⟨tc, htc⟩ : ∃ tc : Nat, tc = 0 := ⟨0, rfl⟩
          rw [show s.w1K st (.slice none 0 0) sb fs = s.w1K st (.slice none 0 tc) sb fs by rw [htc]]
          refine go _ ?_
          refine ro_build1 (vs := [.int .u8 (d off : Nat), .int .u8 0, .int .u16 0]) rfl rfl z157 rfl rfl rfl rfl ?_
          refine ro_buildSliceA (s := 2) [[.int .u8 (d off : Nat), .int .u8 0, .int .u16 0]] rfl rfl z157 rfl (by decide) (fun a ha => by rw [List.mem_singleton.1 ha]; rfl) rfl rfl rfl hex fun eb heb => ?_
          refine go _ ?_
          refine J_condP rfl (fun _ => ?_) (fun h => absurd (show ((tc : Nat) : Int) = 0 by omega) h)
          refine J_regionQ (qs := qsT) [0, 1, 2, 3, 4, 5, 6, 8, 9, 7, 10, 11] rfl (by kernel_rfl) ?_
          refine go _ ?_
          refine ro_make (len := 256) (cap := 256) rfl rfl rfl rfl z144 (by decide) (Nat.le_refl _) (by decide) hex rfl fun bb hbb => ?_
          obtain ⟨BB, hBB⟩ : ∃ BB : Blk, BB = ⟨256 * (3 + 1), zerosG [.int .u32 0, .int .u8 0, .int .u8 0, .int .u16 0], 144, (0, 0)⟩ := ⟨_, rfl⟩
          rw [← hBB]
          have hbf : BB.fr = (0, 0) := by rw [hBB]
          have hbn : 256 * 4 ≤ BB.n := by rw [hBB]; exact Nat.le_refl _
          have hold : ∀ l, l ≤ 256 → SqM 1 st (.slice (some ⟨bb, 0, none⟩) l 256) sb t ([(bb, BB)] ++ tm) := fun l hl => ⟨[(bb, BB)], tm, rfl, .inr ⟨bb, l, BB, rfl, hl, rfl, hbf, hbn⟩, by
            cases t with
            | none => exact ht
            | some T => obtain ⟨q1, b, c, B, q2, q3, q4⟩ := ht; exact ⟨q1, b, c, B, q2, List.mem_append.2 (.inr (by simpa using q3)), q4⟩⟩
          refine go _ ?_
          refine RO_eqv (m' := [(rb, rdB x (s.w1K st (.slice (some ⟨bb, 0, none⟩) 1 256) sb fs)), (eb, listB [[.int .u8 (d off : Nat), .int .u8 0, .int .u16 0]].flatten 157), (bb, BB), (cb, listB (infoL (.slice (some ⟨b0, 0, none⟩) 64 64) (.slice (some ⟨b1, 0, none⟩) 32 32) (.slice (some ⟨b2, 0, none⟩) 64 64)) 153)] ++ (tm ++ (fm ++ [(b0, B0), (b1, B1), (b2, B2)]))) (selA) (fun _ h => J_eqv (selA) h) ?_
          refine ro_callVT (base1_t S rb eb bb x (s.w1K st (.slice (some ⟨bb, 0, none⟩) 1 256) sb fs) _ 1 1 256 (listB [[.int .u8 (d off : Nat), .int .u8 0, .int .u16 0]].flatten 157) BB (fun _ => d off) (fun _ => 0) (fun _ => 0) (one_fs _) (Nat.le_refl 3) (by omega) hbf (by omega) (fun _ _ => hdo) (fun _ _ => ⟨by omega, by omega⟩) (by
            by_cases h : 31 < d off
            · exact .inr ⟨Nat.one_pos, h⟩
            · exact .inl fun _ _ => by omega)) ?_
          rintro v m hvm
          by_cases hbt : 31 < d off
          · rw [if_pos ⟨Nat.one_pos, hbt⟩] at hvm
            obtain ⟨⟨b', rfl⟩, rfl⟩ := hvm
            rw [if_pos (show sqTop 1 < d off from hbt)]
            refine go _ ?_
            refine J_ret ?_
            refine ends_retS [10, 11] (post := (rb, rdB x (s.w1K st (.slice (some ⟨bb, 0, none⟩) 1 256) sb fs)) :: (([(bb, BB)] ++ tm) ++ fm)) (junk := (eb, listB [[.int .u8 (d off : Nat), .int .u8 0, .int .u16 0]].flatten 157) :: (cb, listB (infoL (.slice (some ⟨b0, 0, none⟩) 64 64) (.slice (some ⟨b1, 0, none⟩) 32 32) (.slice (some ⟨b2, 0, none⟩) 64 64)) 153) :: [(b0, B0), (b1, B1), (b2, B2)]) ⟨_, _, [(bb, BB)] ++ tm, fs, fm, hold 1 (by omega), hfs, rfl, ⟨b', rfl⟩, rfl⟩ rfl (.of_perm permA)
          · rw [if_neg (fun h => hbt h.2)] at hvm
            obtain ⟨rfl, g, hg, rfl⟩ := hvm
            rw [if_neg (show ¬ sqTop 1 < d off from hbt)]
            refine go _ ?_
            refine J_ret ?_
            refine ends_retS [10, 11] (post := (rb, rdB x (s.w1K (.slice (some ⟨bb, 0, none⟩) 1 256) (.slice (some ⟨bb, 0, none⟩) 1 256) 0 fs)) :: (([(bb, ⟨BB.n, g, BB.T, (0, 0)⟩)] ++ []) ++ fm)) (junk := (eb, listB [[.int .u8 (d off : Nat), .int .u8 0, .int .u16 0]].flatten 157) :: (cb, listB (infoL (.slice (some ⟨b0, 0, none⟩) 64 64) (.slice (some ⟨b1, 0, none⟩) 32 32) (.slice (some ⟨b2, 0, none⟩) 64 64)) 153) :: (tm ++ [(b0, B0), (b1, B1), (b2, B2)])) ⟨_, _, [(bb, ⟨BB.n, g, BB.T, (0, 0)⟩)] ++ [], fs, fm, ⟨[(bb, _)], [], rfl, .inr ⟨bb, 1, ⟨BB.n, g, BB.T, (0, 0)⟩, rfl, by decide, rfl, rfl, hbn⟩, rfl, bb, 256, _, rfl, List.mem_cons_self, hg, by show 1 * 4 ≤ BB.n; omega, .inl rfl⟩, hfs, rfl, rfl⟩ rfl ?_
            refine MEqv.trans (.cons (B' := rdB x (s.w1K (.slice (some ⟨bb, 0, none⟩) 1 256) (.slice (some ⟨bb, 0, none⟩) 1 256) 0 fs)) (blk_tab rfl rfl rfl rfl) (.refl _)) (.of_perm ?_)
            exact permA
        · rw [hcap] at hbl hbn ⊢
          refine go _ ?_
          refine ro_build1 (vs := [.int .u8 (d off : Nat), .int .u8 0, .int .u16 0]) rfl rfl z157 rfl rfl rfl rfl ?_
          refine ro_buildSliceA (s := 2) [[.int .u8 (d off : Nat), .int .u8 0, .int .u16 0]] rfl rfl z157 rfl (by decide) (fun a ha => by rw [List.mem_singleton.1 ha]; rfl) rfl rfl rfl hex fun eb heb => ?_
          refine go _ ?_
          have hold : ∀ l, l ≤ 256 → SqM 1 st (.slice (some ⟨bb, 0, none⟩) l 256) sb t ([(bb, BB)] ++ tm) := fun l hl => ⟨[(bb, BB)], tm, rfl, .inr ⟨bb, l, BB, rfl, hl, rfl, hbf, hbn⟩, ht⟩
          refine RO_eqv (m' := [(rb, rdB x (s.w1K st (.slice (some ⟨bb, 0, none⟩) 1 256) sb fs)), (eb, listB [[.int .u8 (d off : Nat), .int .u8 0, .int .u16 0]].flatten 157), (bb, BB), (cb, listB (infoL (.slice (some ⟨b0, 0, none⟩) 64 64) (.slice (some ⟨b1, 0, none⟩) 32 32) (.slice (some ⟨b2, 0, none⟩) 64 64)) 153)] ++ (tm ++ (fm ++ [(b0, B0), (b1, B1), (b2, B2)]))) (selA) (fun _ h => J_eqv (selA) h) ?_
          refine ro_callVT (base1_t S rb eb bb x (s.w1K st (.slice (some ⟨bb, 0, none⟩) 1 256) sb fs) _ 1 1 256 (listB [[.int .u8 (d off : Nat), .int .u8 0, .int .u16 0]].flatten 157) BB (fun _ => d off) (fun _ => 0) (fun _ => 0) (one_fs _) (Nat.le_refl 3) (by omega) hbf (by omega) (fun _ _ => hdo) (fun _ _ => ⟨by omega, by omega⟩) (by
            by_cases h : 31 < d off
            · exact .inr ⟨Nat.one_pos, h⟩
            · exact .inl fun _ _ => by omega)) ?_
          rintro v m hvm
          by_cases hbt : 31 < d off
          · rw [if_pos ⟨Nat.one_pos, hbt⟩] at hvm
            obtain ⟨⟨b', rfl⟩, rfl⟩ := hvm
            rw [if_pos (show sqTop 1 < d off from hbt)]
            refine go _ ?_
            refine J_ret ?_
            refine ends_retS [10, 11] (post := (rb, rdB x (s.w1K st (.slice (some ⟨bb, 0, none⟩) 1 256) sb fs)) :: (([(bb, BB)] ++ tm) ++ fm)) (junk := (eb, listB [[.int .u8 (d off : Nat), .int .u8 0, .int .u16 0]].flatten 157) :: (cb, listB (infoL (.slice (some ⟨b0, 0, none⟩) 64 64) (.slice (some ⟨b1, 0, none⟩) 32 32) (.slice (some ⟨b2, 0, none⟩) 64 64)) 153) :: [(b0, B0), (b1, B1), (b2, B2)]) ⟨_, _, [(bb, BB)] ++ tm, fs, fm, hold 1 (by omega), hfs, rfl, ⟨b', rfl⟩, rfl⟩ rfl (.of_perm permA)
          · rw [if_neg (fun h => hbt h.2)] at hvm
            obtain ⟨rfl, g, hg, rfl⟩ := hvm
            rw [if_neg (show ¬ sqTop 1 < d off from hbt)]
            refine go _ ?_
            refine J_ret ?_
            refine ends_retS [10, 11] (post := (rb, rdB x (s.w1K (.slice (some ⟨bb, 0, none⟩) 1 256) (.slice (some ⟨bb, 0, none⟩) 1 256) 0 fs)) :: (([(bb, ⟨BB.n, g, BB.T, (0, 0)⟩)] ++ []) ++ fm)) (junk := (eb, listB [[.int .u8 (d off : Nat), .int .u8 0, .int .u16 0]].flatten 157) :: (cb, listB (infoL (.slice (some ⟨b0, 0, none⟩) 64 64) (.slice (some ⟨b1, 0, none⟩) 32 32) (.slice (some ⟨b2, 0, none⟩) 64 64)) 153) :: (tm ++ [(b0, B0), (b1, B1), (b2, B2)])) ⟨_, _, [(bb, ⟨BB.n, g, BB.T, (0, 0)⟩)] ++ [], fs, fm, ⟨[(bb, _)], [], rfl, .inr ⟨bb, 1, ⟨BB.n, g, BB.T, (0, 0)⟩, rfl, by decide, rfl, rfl, hbn⟩, rfl, bb, 256, _, rfl, List.mem_cons_self, hg, by show 1 * 4 ≤ BB.n; omega, .inl rfl⟩, hfs, rfl, rfl⟩ rfl ?_
            refine MEqv.trans (.cons (B' := rdB x (s.w1K (.slice (some ⟨bb, 0, none⟩) 1 256) (.slice (some ⟨bb, 0, none⟩) 1 256) 0 fs)) (blk_tab rfl rfl rfl rfl) (.refl _)) (.of_perm ?_)
            exact permA
    · refine go _ ?_
      refine J_condP rfl (fun h2m => ?_) (fun h2m => ?_)
      · have hR : setTab t 1 mode d n off = (probs true d n (sqLog 1) (sqTop 1) (8 * off)).map fun r => (fseTab 1 r.1 r.2.1, (r.2.2.2 + 7) / 8) := by unfold setTab; rw [if_neg (by omega), if_neg (by omega), if_pos (by omega)]
        rw [hR]
        obtain ⟨ta, tl, tc, rfl, hb2⟩ := hbuf.form
        have hb2 : (tc = 0 ∧ bm = []) ∨ (tc = 256 ∧ ∃ bb BB, ta = some ⟨bb, 0, none⟩ ∧ tl ≤ 256 ∧ bm = [(bb, BB)] ∧ BB.fr = (0, 0) ∧ 256 * 4 ≤ BB.n) := hb2
        refine J_eqv (m' := (rb, rdB x (s.w1K st (.slice ta tl tc) sb fs)) :: (cb, listB (infoL (.slice (some ⟨b0, 0, none⟩) 64 64) (.slice (some ⟨b1, 0, none⟩) 32 32) (.slice (some ⟨b2, 0, none⟩) 64 64)) 153) :: (fm ++ (bm ++ (tm ++ [(b0, B0), (b1, B1), (b2, B2)])))) (.of_perm permA) ?_
        rcases hfs with ⟨rfl, rfl⟩ | ⟨fb, g, fl, fc, fk, rfl, hfc1, hfck, rfl⟩
        · obtain ⟨fz, hfz⟩ : ∃ fz : Nat, fz = 0 := ⟨0, rfl⟩
          rw [show s.w1K st (.slice ta tl tc) sb (.slice none 0 0) = s.w1K st (.slice ta tl tc) sb (.slice none 0 fz) by rw [hfz]]
          refine go _ ?_
          refine J_condP rfl (fun _ => ?_) (fun h => absurd (show ((fz : Nat) : Int) < ((1 * 2 ^ 8 : Nat) : Int) by omega) h)
          refine go _ ?_
          refine ro_make (len := 256) (cap := 256) rfl rfl rfl rfl z157 (by decide) (Nat.le_refl _) (by decide) hex rfl fun fb hfb => ?_
          obtain ⟨g, hg⟩ : ∃ g, g = zerosG [.int .u8 0, .int .u8 0, .int .u16 0] := ⟨_, rfl⟩
          rw [← hg]
          obtain ⟨fk, hfk⟩ : ∃ fk, fk = 256 * (2 + 1) := ⟨_, rfl⟩
          rw [← hfk]
          obtain ⟨fc, hfc⟩ : ∃ fc, fc = 256 := ⟨_, rfl⟩
          have hfc1 : 256 ≤ fc := by omega
          have hfck : fc * 3 ≤ fk := by omega
          rw [show (Value.slice (some ⟨fb, 0, none⟩) 256 256) = .slice (some ⟨fb, 0, none⟩) 256 fc by rw [hfc]]
          refine go _ ?_
          refine ro_callT (readFSE_t S rb fb x (s.w1K st (.slice ta tl tc) sb (.slice (some ⟨fb, 0, none⟩) 256 fc)) _ n cp hd hv hn off 31 8 256 fc ⟨fk, g, 157, (0, 0)⟩ hoff (by decide) (by decide) (by decide) hfc1 (by show 256 * 3 ≤ fk; omega) rfl) ?_
          rintro v m hvm
          cases hP : probs true d n 8 31 (8 * off) with
          | none =>
            rw [hP] at hvm
            obtain ⟨e', rfl, ⟨b', rfl⟩, rfl⟩ := hvm
            rw [show probs true d n (sqLog 1) (sqTop 1) (8 * off) = none from hP]
            refine go _ ?_
            refine J_ret ?_
            refine ends_retS [10, 11] (post := (rb, rdB x (s.w1K st (.slice ta tl tc) sb (.slice (some ⟨fb, 0, none⟩) 256 fc))) :: ((bm ++ tm) ++ [(fb, ⟨fk, g, 157, (0, 0)⟩)])) (junk := (cb, listB (infoL (.slice (some ⟨b0, 0, none⟩) 64 64) (.slice (some ⟨b1, 0, none⟩) 32 32) (.slice (some ⟨b2, 0, none⟩) 64 64)) 153) :: (([] : Mem) ++ [(b0, B0), (b1, B1), (b2, B2)])) ⟨_, _, bm ++ tm, _, [(fb, _)], ⟨bm, tm, rfl, hbuf, ht⟩, .inr ⟨fb, g, 256, fc, fk, rfl, hfc1, hfck, rfl⟩, rfl, ⟨b', rfl⟩, rfl⟩ rfl (.of_perm permA)
          | some r =>
            obtain ⟨log, sh, cx, q⟩ := r
            rw [hP] at hvm
            dsimp only at hvm
            obtain ⟨rfl, g1, rfl, hg1, _⟩ := hvm
            obtain ⟨p1, p2, p3, p4⟩ := probs_ok hP (by omega)
            have p3 : Fills sh (31 + 1) (2 ^ log) := p3
            have hlp : 2 ^ log ≤ 2 ^ 8 := Nat.pow_le_pow_right (by omega) p2
            have hl1 : 0 < 2 ^ log := Nat.two_pow_pos _
            rw [show probs true d n (sqLog 1) (sqTop 1) (8 * off) = some (log, sh, cx, q) from hP]
            refine go _ ?_
            refine J_joinE (σ := Nat × Nat × Blk) [0, 3, 13, 17, 18] (fun _ => []) (fun y => (rb, rdB x (s.w1K st (.slice (some ⟨y.1, 0, none⟩) y.2.1 256) sb (.slice (some ⟨fb, 0, none⟩) (2 ^ log) fc))) :: (y.1, y.2.2) :: (fb, ⟨fk, g1, 157, (0, 0)⟩) :: (cb, listB (infoL (.slice (some ⟨b0, 0, none⟩) 64 64) (.slice (some ⟨b1, 0, none⟩) 32 32) (.slice (some ⟨b2, 0, none⟩) 64 64)) 153) :: (([] : Mem) ++ (tm ++ [(b0, B0), (b1, B1), (b2, B2)]))) (fun y => y.2.1 ≤ 256 ∧ y.2.2.fr = (0, 0) ∧ 256 * 4 ≤ y.2.2.n) ?_ ?_
            · rw [show 1 * 2 ^ log = 2 ^ log from Nat.one_mul _]
              rcases hb2 with ⟨htc, rfl⟩ | ⟨htc, bb, BB, rfl, hbl, rfl, hbf, hbn⟩
              · refine J_condP rfl (fun _ => ?_) (fun h => absurd (show ((tc : Nat) : Int) = 0 by omega) h)
                refine J_regionQ (qs := qsT) [0, 1, 2, 3, 4, 5, 6, 8, 9, 7, 10, 11] rfl (by kernel_rfl) ?_
                refine go _ ?_
                refine ro_make (len := 256) (cap := 256) rfl rfl rfl rfl z144 (by decide) (Nat.le_refl _) (by decide) hex rfl fun bb hbb => ?_
                refine go _ ?_
                exact ⟨(bb, 256, ⟨256 * (3 + 1), zerosG [.int .u32 0, .int .u8 0, .int .u8 0, .int .u16 0], 144, (0, 0)⟩), ⟨Nat.le_refl _, rfl, Nat.le_refl _⟩, joined (show MEqv _ ([(rb, _), (bb, _), (fb, _), (cb, _)] ++ (([] : Mem) ++ (tm ++ [(b0, B0), (b1, B1), (b2, B2)]))) from selA)⟩
              · refine J_condP rfl (fun h => absurd h (by omega)) (fun _ => ?_)
                refine go _ ?_
                rw [htc]
                exact ⟨(bb, tl, BB), ⟨hbl, hbf, hbn⟩, joined (show MEqv _ ([(rb, _), (bb, _), (fb, _), (cb, _)] ++ (([] : Mem) ++ (tm ++ [(b0, B0), (b1, B1), (b2, B2)]))) from selA)⟩
            · rintro ⟨bb, bl, BB⟩ f ⟨w1, w2, w3⟩
              dsimp only at w1 w2 w3 ⊢
              refine go _ ?_
              rw [show 1 * 2 ^ log = 2 ^ log from Nat.one_mul _]
              refine RO_eqv (m' := [(rb, rdB x (s.w1K st (.slice (some ⟨bb, 0, none⟩) (2 ^ log) 256) sb (.slice (some ⟨fb, 0, none⟩) (2 ^ log) fc))), (fb, ⟨fk, g1, 157, (0, 0)⟩), (bb, BB), (cb, listB (infoL (.slice (some ⟨b0, 0, none⟩) 64 64) (.slice (some ⟨b1, 0, none⟩) 32 32) (.slice (some ⟨b2, 0, none⟩) 64 64)) 153)] ++ (([] : Mem) ++ (tm ++ [(b0, B0), (b1, B1), (b2, B2)]))) (selA) (fun _ h => J_eqv (selA) h) ?_
              refine ro_callVT (base1_t S rb fb bb x (s.w1K st (.slice (some ⟨bb, 0, none⟩) (2 ^ log) 256) sb (.slice (some ⟨fb, 0, none⟩) (2 ^ log) fc)) _ (2 ^ log) fc 256 ⟨fk, g1, 157, (0, 0)⟩ BB (symTab sh (31 + 1) (2 ^ log)) (cellBits sh (31 + 1) log) (cellBase sh (31 + 1) log) (FseG.fs hg1) (by show 2 ^ log * 3 ≤ fk; omega) (by omega) w2 (by omega) (fun p hp => by have := symTab_lt p3 hp; omega) (fun p hp => ⟨by unfold cellBits; omega, Nat.lt_of_le_of_lt (Nat.le_trans (Nat.le_add_right _ _) (cell_ok p3 hp).2.2) (by omega)⟩) (.inl fun p hp => by have := symTab_lt p3 hp; omega)) ?_
              rintro v m hvm
              rw [if_neg (fun h => by have := symTab_lt p3 (p := 0) hl1; omega)] at hvm
              obtain ⟨rfl, g2, hg2, rfl⟩ := hvm
              refine go _ ?_
              refine J_ret ?_
              refine ends_retS [10, 11] (post := (rb, rdB x (s.w1K (.slice (some ⟨bb, 0, none⟩) (2 ^ log) 256) (.slice (some ⟨bb, 0, none⟩) (2 ^ log) 256) log (.slice (some ⟨fb, 0, none⟩) (2 ^ log) fc))) :: (([(bb, ⟨BB.n, g2, BB.T, (0, 0)⟩)] ++ []) ++ [(fb, ⟨fk, g1, 157, (0, 0)⟩)])) (junk := (cb, listB (infoL (.slice (some ⟨b0, 0, none⟩) 64 64) (.slice (some ⟨b1, 0, none⟩) 32 32) (.slice (some ⟨b2, 0, none⟩) 64 64)) 153) :: (([] : Mem) ++ (tm ++ [(b0, B0), (b1, B1), (b2, B2)]))) ⟨_, _, [(bb, ⟨BB.n, g2, BB.T, (0, 0)⟩)] ++ [], _, [(fb, _)], ⟨[(bb, _)], [], rfl, .inr ⟨bb, 2 ^ log, ⟨BB.n, g2, BB.T, (0, 0)⟩, rfl, hlp, rfl, rfl, w3⟩, rfl, bb, 256, _, rfl, List.mem_cons_self, hg2, by show 2 ^ log * 4 ≤ BB.n; omega, .inl rfl⟩, .inr ⟨fb, g1, 2 ^ log, fc, fk, rfl, by omega, hfck, rfl⟩, rfl, rfl⟩ rfl ?_
              refine MEqv.trans (.cons (B' := rdB x (s.w1K (.slice (some ⟨bb, 0, none⟩) (2 ^ log) 256) (.slice (some ⟨bb, 0, none⟩) (2 ^ log) 256) log (.slice (some ⟨fb, 0, none⟩) (2 ^ log) fc))) (blk_tab rfl rfl rfl rfl) (.refl _)) (.of_perm ?_)
              exact permA
        · refine go _ ?_
          refine J_condP rfl (fun hsmall => ?_) (fun hbig => ?_)
          · obtain ⟨fb0, hfb0⟩ : ∃ z, z = fb := ⟨_, rfl⟩
            obtain ⟨g0, hg0⟩ : ∃ z, z = g := ⟨_, rfl⟩
            obtain ⟨fk0, hfk0⟩ : ∃ z, z = fk := ⟨_, rfl⟩
            rw [← hfb0, ← hg0, ← hfk0]
            clear hfb0 hg0 hfk0 hfc1 hfck hsmall
            refine go _ ?_
            refine ro_make (len := 256) (cap := 256) rfl rfl rfl rfl z157 (by decide) (Nat.le_refl _) (by decide) hex rfl fun fb hfb => ?_
            obtain ⟨g, hg⟩ : ∃ g, g = zerosG [.int .u8 0, .int .u8 0, .int .u16 0] := ⟨_, rfl⟩
            rw [← hg]
            obtain ⟨fk, hfk⟩ : ∃ fk, fk = 256 * (2 + 1) := ⟨_, rfl⟩
            rw [← hfk]
            obtain ⟨fc, hfc⟩ : ∃ fc, fc = 256 := ⟨_, rfl⟩
            have hfc1 : 256 ≤ fc := by omega
            have hfck : fc * 3 ≤ fk := by omega
            rw [show (Value.slice (some ⟨fb, 0, none⟩) 256 256) = .slice (some ⟨fb, 0, none⟩) 256 fc by rw [hfc]]
            refine go _ ?_
            refine ro_callT (readFSE_t S rb fb x (s.w1K st (.slice ta tl tc) sb (.slice (some ⟨fb, 0, none⟩) 256 fc)) _ n cp hd hv hn off 31 8 256 fc ⟨fk, g, 157, (0, 0)⟩ hoff (by decide) (by decide) (by decide) hfc1 (by show 256 * 3 ≤ fk; omega) rfl) ?_
            rintro v m hvm
            cases hP : probs true d n 8 31 (8 * off) with
            | none =>
              rw [hP] at hvm
              obtain ⟨e', rfl, ⟨b', rfl⟩, rfl⟩ := hvm
              rw [show probs true d n (sqLog 1) (sqTop 1) (8 * off) = none from hP]
              refine go _ ?_
              refine J_ret ?_
              refine ends_retS [10, 11] (post := (rb, rdB x (s.w1K st (.slice ta tl tc) sb (.slice (some ⟨fb, 0, none⟩) 256 fc))) :: ((bm ++ tm) ++ [(fb, ⟨fk, g, 157, (0, 0)⟩)])) (junk := (cb, listB (infoL (.slice (some ⟨b0, 0, none⟩) 64 64) (.slice (some ⟨b1, 0, none⟩) 32 32) (.slice (some ⟨b2, 0, none⟩) 64 64)) 153) :: (([(fb0, ⟨fk0, g0, 157, (0, 0)⟩)] : Mem) ++ [(b0, B0), (b1, B1), (b2, B2)])) ⟨_, _, bm ++ tm, _, [(fb, _)], ⟨bm, tm, rfl, hbuf, ht⟩, .inr ⟨fb, g, 256, fc, fk, rfl, hfc1, hfck, rfl⟩, rfl, ⟨b', rfl⟩, rfl⟩ rfl (.of_perm permA)
            | some r =>
              obtain ⟨log, sh, cx, q⟩ := r
              rw [hP] at hvm
              dsimp only at hvm
              obtain ⟨rfl, g1, rfl, hg1, _⟩ := hvm
              obtain ⟨p1, p2, p3, p4⟩ := probs_ok hP (by omega)
              have p3 : Fills sh (31 + 1) (2 ^ log) := p3
              have hlp : 2 ^ log ≤ 2 ^ 8 := Nat.pow_le_pow_right (by omega) p2
              have hl1 : 0 < 2 ^ log := Nat.two_pow_pos _
              rw [show probs true d n (sqLog 1) (sqTop 1) (8 * off) = some (log, sh, cx, q) from hP]
              refine go _ ?_
              refine J_joinE (σ := Nat × Nat × Blk) [0, 3, 13, 17, 18] (fun _ => []) (fun y => (rb, rdB x (s.w1K st (.slice (some ⟨y.1, 0, none⟩) y.2.1 256) sb (.slice (some ⟨fb, 0, none⟩) (2 ^ log) fc))) :: (y.1, y.2.2) :: (fb, ⟨fk, g1, 157, (0, 0)⟩) :: (cb, listB (infoL (.slice (some ⟨b0, 0, none⟩) 64 64) (.slice (some ⟨b1, 0, none⟩) 32 32) (.slice (some ⟨b2, 0, none⟩) 64 64)) 153) :: (([(fb0, ⟨fk0, g0, 157, (0, 0)⟩)] : Mem) ++ (tm ++ [(b0, B0), (b1, B1), (b2, B2)]))) (fun y => y.2.1 ≤ 256 ∧ y.2.2.fr = (0, 0) ∧ 256 * 4 ≤ y.2.2.n) ?_ ?_
              · rw [show 1 * 2 ^ log = 2 ^ log from Nat.one_mul _]
                rcases hb2 with ⟨htc, rfl⟩ | ⟨htc, bb, BB, rfl, hbl, rfl, hbf, hbn⟩
                · refine J_condP rfl (fun _ => ?_) (fun h => absurd (show ((tc : Nat) : Int) = 0 by omega) h)
                  refine J_regionQ (qs := qsT) [0, 1, 2, 3, 4, 5, 6, 8, 9, 7, 10, 11] rfl (by kernel_rfl) ?_
                  refine go _ ?_
                  refine ro_make (len := 256) (cap := 256) rfl rfl rfl rfl z144 (by decide) (Nat.le_refl _) (by decide) hex rfl fun bb hbb => ?_
                  refine go _ ?_
                  exact ⟨(bb, 256, ⟨256 * (3 + 1), zerosG [.int .u32 0, .int .u8 0, .int .u8 0, .int .u16 0], 144, (0, 0)⟩), ⟨Nat.le_refl _, rfl, Nat.le_refl _⟩, joined (show MEqv _ ([(rb, _), (bb, _), (fb, _), (cb, _)] ++ (([(fb0, ⟨fk0, g0, 157, (0, 0)⟩)] : Mem) ++ (tm ++ [(b0, B0), (b1, B1), (b2, B2)]))) from selA)⟩
                · refine J_condP rfl (fun h => absurd h (by omega)) (fun _ => ?_)
                  refine go _ ?_
                  rw [htc]
                  exact ⟨(bb, tl, BB), ⟨hbl, hbf, hbn⟩, joined (show MEqv _ ([(rb, _), (bb, _), (fb, _), (cb, _)] ++ (([(fb0, ⟨fk0, g0, 157, (0, 0)⟩)] : Mem) ++ (tm ++ [(b0, B0), (b1, B1), (b2, B2)]))) from selA)⟩
              · rintro ⟨bb, bl, BB⟩ f ⟨w1, w2, w3⟩
                dsimp only at w1 w2 w3 ⊢
                refine go _ ?_
                rw [show 1 * 2 ^ log = 2 ^ log from Nat.one_mul _]
                refine RO_eqv (m' := [(rb, rdB x (s.w1K st (.slice (some ⟨bb, 0, none⟩) (2 ^ log) 256) sb (.slice (some ⟨fb, 0, none⟩) (2 ^ log) fc))), (fb, ⟨fk, g1, 157, (0, 0)⟩), (bb, BB), (cb, listB (infoL (.slice (some ⟨b0, 0, none⟩) 64 64) (.slice (some ⟨b1, 0, none⟩) 32 32) (.slice (some ⟨b2, 0, none⟩) 64 64)) 153)] ++ (([(fb0, ⟨fk0, g0, 157, (0, 0)⟩)] : Mem) ++ (tm ++ [(b0, B0), (b1, B1), (b2, B2)]))) (selA) (fun _ h => J_eqv (selA) h) ?_
                refine ro_callVT (base1_t S rb fb bb x (s.w1K st (.slice (some ⟨bb, 0, none⟩) (2 ^ log) 256) sb (.slice (some ⟨fb, 0, none⟩) (2 ^ log) fc)) _ (2 ^ log) fc 256 ⟨fk, g1, 157, (0, 0)⟩ BB (symTab sh (31 + 1) (2 ^ log)) (cellBits sh (31 + 1) log) (cellBase sh (31 + 1) log) (FseG.fs hg1) (by show 2 ^ log * 3 ≤ fk; omega) (by omega) w2 (by omega) (fun p hp => by have := symTab_lt p3 hp; omega) (fun p hp => ⟨by unfold cellBits; omega, Nat.lt_of_le_of_lt (Nat.le_trans (Nat.le_add_right _ _) (cell_ok p3 hp).2.2) (by omega)⟩) (.inl fun p hp => by have := symTab_lt p3 hp; omega)) ?_
                rintro v m hvm
                rw [if_neg (fun h => by have := symTab_lt p3 (p := 0) hl1; omega)] at hvm
                obtain ⟨rfl, g2, hg2, rfl⟩ := hvm
                refine go _ ?_
                refine J_ret ?_
                refine ends_retS [10, 11] (post := (rb, rdB x (s.w1K (.slice (some ⟨bb, 0, none⟩) (2 ^ log) 256) (.slice (some ⟨bb, 0, none⟩) (2 ^ log) 256) log (.slice (some ⟨fb, 0, none⟩) (2 ^ log) fc))) :: (([(bb, ⟨BB.n, g2, BB.T, (0, 0)⟩)] ++ []) ++ [(fb, ⟨fk, g1, 157, (0, 0)⟩)])) (junk := (cb, listB (infoL (.slice (some ⟨b0, 0, none⟩) 64 64) (.slice (some ⟨b1, 0, none⟩) 32 32) (.slice (some ⟨b2, 0, none⟩) 64 64)) 153) :: (([(fb0, ⟨fk0, g0, 157, (0, 0)⟩)] : Mem) ++ (tm ++ [(b0, B0), (b1, B1), (b2, B2)]))) ⟨_, _, [(bb, ⟨BB.n, g2, BB.T, (0, 0)⟩)] ++ [], _, [(fb, _)], ⟨[(bb, _)], [], rfl, .inr ⟨bb, 2 ^ log, ⟨BB.n, g2, BB.T, (0, 0)⟩, rfl, hlp, rfl, rfl, w3⟩, rfl, bb, 256, _, rfl, List.mem_cons_self, hg2, by show 2 ^ log * 4 ≤ BB.n; omega, .inl rfl⟩, .inr ⟨fb, g1, 2 ^ log, fc, fk, rfl, by omega, hfck, rfl⟩, rfl, rfl⟩ rfl ?_
                refine MEqv.trans (.cons (B' := rdB x (s.w1K (.slice (some ⟨bb, 0, none⟩) (2 ^ log) 256) (.slice (some ⟨bb, 0, none⟩) (2 ^ log) 256) log (.slice (some ⟨fb, 0, none⟩) (2 ^ log) fc))) (blk_tab rfl rfl rfl rfl) (.refl _)) (.of_perm ?_)
                exact permA
          · have hfc1 : 256 ≤ fc := by omega
            refine go _ ?_
            refine ro_callT (readFSE_t S rb fb x (s.w1K st (.slice ta tl tc) sb (.slice (some ⟨fb, 0, none⟩) 256 fc)) _ n cp hd hv hn off 31 8 256 fc ⟨fk, g, 157, (0, 0)⟩ hoff (by decide) (by decide) (by decide) hfc1 (by show 256 * 3 ≤ fk; omega) rfl) ?_
            rintro v m hvm
            cases hP : probs true d n 8 31 (8 * off) with
            | none =>
              rw [hP] at hvm
              obtain ⟨e', rfl, ⟨b', rfl⟩, rfl⟩ := hvm
              rw [show probs true d n (sqLog 1) (sqTop 1) (8 * off) = none from hP]
              refine go _ ?_
              refine J_ret ?_
              refine ends_retS [10, 11] (post := (rb, rdB x (s.w1K st (.slice ta tl tc) sb (.slice (some ⟨fb, 0, none⟩) 256 fc))) :: ((bm ++ tm) ++ [(fb, ⟨fk, g, 157, (0, 0)⟩)])) (junk := (cb, listB (infoL (.slice (some ⟨b0, 0, none⟩) 64 64) (.slice (some ⟨b1, 0, none⟩) 32 32) (.slice (some ⟨b2, 0, none⟩) 64 64)) 153) :: (([] : Mem) ++ [(b0, B0), (b1, B1), (b2, B2)])) ⟨_, _, bm ++ tm, _, [(fb, _)], ⟨bm, tm, rfl, hbuf, ht⟩, .inr ⟨fb, g, 256, fc, fk, rfl, hfc1, hfck, rfl⟩, rfl, ⟨b', rfl⟩, rfl⟩ rfl (.of_perm permA)
            | some r =>
              obtain ⟨log, sh, cx, q⟩ := r
              rw [hP] at hvm
              dsimp only at hvm
              obtain ⟨rfl, g1, rfl, hg1, _⟩ := hvm
              obtain ⟨p1, p2, p3, p4⟩ := probs_ok hP (by omega)
              have p3 : Fills sh (31 + 1) (2 ^ log) := p3
              have hlp : 2 ^ log ≤ 2 ^ 8 := Nat.pow_le_pow_right (by omega) p2
              have hl1 : 0 < 2 ^ log := Nat.two_pow_pos _
              rw [show probs true d n (sqLog 1) (sqTop 1) (8 * off) = some (log, sh, cx, q) from hP]
              refine go _ ?_
              refine J_joinE (σ := Nat × Nat × Blk) [0, 3, 13, 17, 18] (fun _ => []) (fun y => (rb, rdB x (s.w1K st (.slice (some ⟨y.1, 0, none⟩) y.2.1 256) sb (.slice (some ⟨fb, 0, none⟩) (2 ^ log) fc))) :: (y.1, y.2.2) :: (fb, ⟨fk, g1, 157, (0, 0)⟩) :: (cb, listB (infoL (.slice (some ⟨b0, 0, none⟩) 64 64) (.slice (some ⟨b1, 0, none⟩) 32 32) (.slice (some ⟨b2, 0, none⟩) 64 64)) 153) :: (([] : Mem) ++ (tm ++ [(b0, B0), (b1, B1), (b2, B2)]))) (fun y => y.2.1 ≤ 256 ∧ y.2.2.fr = (0, 0) ∧ 256 * 4 ≤ y.2.2.n) ?_ ?_
              · rw [show 1 * 2 ^ log = 2 ^ log from Nat.one_mul _]
                rcases hb2 with ⟨htc, rfl⟩ | ⟨htc, bb, BB, rfl, hbl, rfl, hbf, hbn⟩
                · refine J_condP rfl (fun _ => ?_) (fun h => absurd (show ((tc : Nat) : Int) = 0 by omega) h)
                  refine J_regionQ (qs := qsT) [0, 1, 2, 3, 4, 5, 6, 8, 9, 7, 10, 11] rfl (by kernel_rfl) ?_
                  refine go _ ?_
                  refine ro_make (len := 256) (cap := 256) rfl rfl rfl rfl z144 (by decide) (Nat.le_refl _) (by decide) hex rfl fun bb hbb => ?_
                  refine go _ ?_
                  exact ⟨(bb, 256, ⟨256 * (3 + 1), zerosG [.int .u32 0, .int .u8 0, .int .u8 0, .int .u16 0], 144, (0, 0)⟩), ⟨Nat.le_refl _, rfl, Nat.le_refl _⟩, joined (show MEqv _ ([(rb, _), (bb, _), (fb, _), (cb, _)] ++ (([] : Mem) ++ (tm ++ [(b0, B0), (b1, B1), (b2, B2)]))) from selA)⟩
                · refine J_condP rfl (fun h => absurd h (by omega)) (fun _ => ?_)
                  refine go _ ?_
                  rw [htc]
                  exact ⟨(bb, tl, BB), ⟨hbl, hbf, hbn⟩, joined (show MEqv _ ([(rb, _), (bb, _), (fb, _), (cb, _)] ++ (([] : Mem) ++ (tm ++ [(b0, B0), (b1, B1), (b2, B2)]))) from selA)⟩
              · rintro ⟨bb, bl, BB⟩ f ⟨w1, w2, w3⟩
                dsimp only at w1 w2 w3 ⊢
                refine go _ ?_
                rw [show 1 * 2 ^ log = 2 ^ log from Nat.one_mul _]
                refine RO_eqv (m' := [(rb, rdB x (s.w1K st (.slice (some ⟨bb, 0, none⟩) (2 ^ log) 256) sb (.slice (some ⟨fb, 0, none⟩) (2 ^ log) fc))), (fb, ⟨fk, g1, 157, (0, 0)⟩), (bb, BB), (cb, listB (infoL (.slice (some ⟨b0, 0, none⟩) 64 64) (.slice (some ⟨b1, 0, none⟩) 32 32) (.slice (some ⟨b2, 0, none⟩) 64 64)) 153)] ++ (([] : Mem) ++ (tm ++ [(b0, B0), (b1, B1), (b2, B2)]))) (selA) (fun _ h => J_eqv (selA) h) ?_
                refine ro_callVT (base1_t S rb fb bb x (s.w1K st (.slice (some ⟨bb, 0, none⟩) (2 ^ log) 256) sb (.slice (some ⟨fb, 0, none⟩) (2 ^ log) fc)) _ (2 ^ log) fc 256 ⟨fk, g1, 157, (0, 0)⟩ BB (symTab sh (31 + 1) (2 ^ log)) (cellBits sh (31 + 1) log) (cellBase sh (31 + 1) log) (FseG.fs hg1) (by show 2 ^ log * 3 ≤ fk; omega) (by omega) w2 (by omega) (fun p hp => by have := symTab_lt p3 hp; omega) (fun p hp => ⟨by unfold cellBits; omega, Nat.lt_of_le_of_lt (Nat.le_trans (Nat.le_add_right _ _) (cell_ok p3 hp).2.2) (by omega)⟩) (.inl fun p hp => by have := symTab_lt p3 hp; omega)) ?_
                rintro v m hvm
                rw [if_neg (fun h => by have := symTab_lt p3 (p := 0) hl1; omega)] at hvm
                obtain ⟨rfl, g2, hg2, rfl⟩ := hvm
                refine go _ ?_
                refine J_ret ?_
                refine ends_retS [10, 11] (post := (rb, rdB x (s.w1K (.slice (some ⟨bb, 0, none⟩) (2 ^ log) 256) (.slice (some ⟨bb, 0, none⟩) (2 ^ log) 256) log (.slice (some ⟨fb, 0, none⟩) (2 ^ log) fc))) :: (([(bb, ⟨BB.n, g2, BB.T, (0, 0)⟩)] ++ []) ++ [(fb, ⟨fk, g1, 157, (0, 0)⟩)])) (junk := (cb, listB (infoL (.slice (some ⟨b0, 0, none⟩) 64 64) (.slice (some ⟨b1, 0, none⟩) 32 32) (.slice (some ⟨b2, 0, none⟩) 64 64)) 153) :: (([] : Mem) ++ (tm ++ [(b0, B0), (b1, B1), (b2, B2)]))) ⟨_, _, [(bb, ⟨BB.n, g2, BB.T, (0, 0)⟩)] ++ [], _, [(fb, _)], ⟨[(bb, _)], [], rfl, .inr ⟨bb, 2 ^ log, ⟨BB.n, g2, BB.T, (0, 0)⟩, rfl, hlp, rfl, rfl, w3⟩, rfl, bb, 256, _, rfl, List.mem_cons_self, hg2, by show 2 ^ log * 4 ≤ BB.n; omega, .inl rfl⟩, .inr ⟨fb, g1, 2 ^ log, fc, fk, rfl, by omega, hfck, rfl⟩, rfl, rfl⟩ rfl ?_
                refine MEqv.trans (.cons (B' := rdB x (s.w1K (.slice (some ⟨bb, 0, none⟩) (2 ^ log) 256) (.slice (some ⟨bb, 0, none⟩) (2 ^ log) 256) log (.slice (some ⟨fb, 0, none⟩) (2 ^ log) fc))) (blk_tab rfl rfl rfl rfl) (.refl _)) (.of_perm ?_)
                exact permA
      · have hR : setTab t 1 mode d n off = t.map fun t => (t, off) := by unfold setTab; rw [if_neg (by omega), if_neg (by omega), if_neg (by omega)]
        rw [hR]
        cases t with
        | none =>
          obtain ⟨rfl, rfl⟩ := ht
          refine go _ ?_
          refine J_condP rfl (fun h3m => ?_) (fun h3m => absurd h3m (by omega))
          refine go _ ?_
          refine ro_callT (merr_t S rb x _ _ _) ?_
          rintro v m ⟨⟨b', rfl⟩, rfl⟩
          refine go _ ?_
          refine J_ret ?_
          refine ends_retS [10, 11] (post := (rb, rdB x (s.w1K (.slice none 0 0) tb sb fs)) :: ((bm ++ []) ++ fm)) (junk := (cb, I) :: [(b0, B0), (b1, B1), (b2, B2)]) ⟨_, tb, bm ++ [], fs, fm, ⟨bm, [], rfl, hbuf, rfl, rfl⟩, hfs, rfl, ⟨b', rfl⟩, rfl⟩ rfl ?_
          refine MEqv.trans (.cons rfl (.cons (B' := I) (congrArg Blk.obj hI.symm) (.refl _))) (.of_perm ?_)
          exact permA
        | some T =>
          obtain ⟨rfl, b, c, B, rfl, ht1, ht2, ht3, ht4⟩ := ht
          have hp0 : 0 < 2 ^ T.log := Nat.two_pow_pos _
          refine go _ ?_
          refine J_condP rfl (fun h3m => ?_) (fun h3m => absurd h3m (by omega))
          refine go _ ?_
          refine J_condP rfl (fun h => absurd h (by omega)) (fun _ => ?_)
          refine go _ ?_
          refine J_ret ?_
          refine ends_retS [10, 11] (post := (rb, rdB x (s.w1K (.slice (some ⟨b, 0, none⟩) (2 ^ T.log) c) tb T.log fs)) :: ((bm ++ tm) ++ fm)) (junk := (cb, I) :: [(b0, B0), (b1, B1), (b2, B2)]) ⟨_, tb, bm ++ tm, fs, fm, ⟨bm, tm, rfl, hbuf, rfl, b, c, B, rfl, ht1, ht2, ht3, ht4⟩, hfs, rfl, rfl⟩ rfl ?_
          refine MEqv.trans (.cons rfl (.cons (B' := I) (congrArg Blk.obj hI.symm) (.refl _))) (.of_perm ?_)
          exact permA

end Go.Proofs.YtogmacnlpclgkaaDoor
