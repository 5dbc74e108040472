/-
  WALKS 13: bytes.Reader as a source.
-/
import Derived.Test.YtogmacnlpclgkaaDoorW6
namespace Go.Proofs.YtogmacnlpclgkaaDoor
open Go Go.Eng
attribute [local irreducible] RO J Trip Quiet
variable {G : Mem}

def brB (oa : Option Addr) (N cp p : Nat) : Blk := listB [.slice oa N cp, .int .i64 p, .int .i64 (-1)] 93

theorem bread_t (S : Sent G) (dat : Nat → Nat) (oa : Option Addr) (N cp bb p : Nat) (hv : View G oa N cp dat) (hN : N < 2 ^ 60) (hp : p ≤ N) (b o len cap : Nat) (B : Blk) (hfr : B.fr = (0, 0)) (ho : o + len ≤ B.n) (_hc : len ≤ cap) :
    Trip Tryd.prog G 113 #[.pointer (some ⟨bb, 0, none⟩), .slice (some ⟨b, o, none⟩) len cap] ((b, B) :: [(bb, brB oa N cp p)]) (fun v m =>
      ∃ k, k = min len (N - p) ∧ v = .tuple #[.int .i64 k, if p < N then .nilIface else S.eofV] ∧ m = (b, putB B o k dat p) :: [(bb, brB oa N cp (p + k))]) := by
  refine Trip_of Tryd.func113 rfl (by show 2 ≤ _; decide) (args := [.pointer (some ⟨bb, 0, none⟩), .slice (some ⟨b, o, none⟩) len cap]) fun c h0 hex => ?_
  have hcp := hv.le
  refine go _ ?_
  refine J_condP rfl (fun hge => ?_) (fun hlt => ?_)
  · refine go _ ?_
    refine ro_loadA rfl rfl (by simp [S.e0]) S.e0n S.e0g rfl ?_
    refine go _ ?_
    refine J_ret ?_
    exact ends_retS [4, 5] ⟨0, by omega, by rw [if_neg (by omega)]; rfl, rfl⟩ rfl (.cons (by unfold putB; rw [blit_zero]) (.refl _))
  · have hlt' : p < N := by omega
    refine go _ ?_
    refine ro_slV p N hv rfl rfl rfl rfl rfl rfl rfl hp hcp rfl ?_
    obtain ⟨src, hsrc, hsr⟩ := (hv.sub (l := p) (h := N) hp (Nat.le_refl _)).src
    refine go _ ?_
    refine ro_copy (s := 0) (k := N - p) (src := src) rfl rfl rfl rfl (hsrc.imp (fun ⟨b, o, cp, B, h1, h2, h3, h4⟩ => ⟨b, o, cp, B, h1, List.mem_append.2 (.inr h2), h3, h4⟩) id) (fun j hj => by rw [hsr j (by omega)]; rfl) .here hfr (by omega) hex rfl ?_
    have hmn : min (N - p) len ≤ N - p := Nat.min_le_left _ _
    have hml : min (N - p) len ≤ len := Nat.min_le_right _ _
    have hmm : min (N - p) len = min len (N - p) := Nat.min_comm _ _
    generalize min (N - p) len = k at *
    refine go _ ?_
    refine J_ret ?_
    refine ends_retS [4, 5] (junk := []) ⟨k, hmm, by rw [if_pos hlt']; rfl, rfl⟩ rfl ?_
    refine .cons (obj_congr fun i _ => ?_) (.cons (blk_tab rfl rfl rfl rfl) .nil)
    show blit B.g o (k * (0 + 1)) src i = blit B.g o k (byteG dat p) i
    rw [show k * (0 + 1) = k by omega]
    by_cases hi : o ≤ i ∧ i < o + k
    · rw [blit_in _ _ _ _ _ hi.1 hi.2, blit_in _ _ _ _ _ hi.1 hi.2, hsr _ (by omega)]; rfl
    · rw [blit_out _ _ _ _ _ (by omega), blit_out _ _ _ _ _ (by omega)]

theorem bmth : mthd Tryd.prog 65 "Read" = some 113 := by kernel_rfl
theorem bmthS : mthd Tryd.prog 65 "Seek" = some 114 := by kernel_rfl

/-- bytes.Reader as a reader. -/
def bsrc (S : Sent G) (dat : Nat → Nat) (oa : Option Addr) (N cp bb : Nat) (hv : View G oa N cp dat) (hN : N < 2 ^ 60) : Source S dat N where
  σ := Nat
  mem p := [(bb, brB oa N cp p)]
  pos p := p
  ok p := p ≤ N
  t := 65
  e := 93
  rv := .pointer (some ⟨bb, 0, none⟩)
  fid := 113
  ptr := rfl
  mth := bmth
  go := rfl
  le _ h := h
  rd := by
    intro p b o len cap B hok hfr ho hc
    refine (bread_t S dat oa N cp bb p hv hN hok b o len cap B hfr ho hc).mono ?_
    rintro v m ⟨k, h1, h2, h3⟩
    exact ⟨p + k, k, by omega, by omega, rfl, fun h5 h6 => by omega, h2, h3⟩

theorem bnew_t (oa : Option Addr) (N cp : Nat) : Trip Tryd.prog G 25 #[.slice oa N cp] [] (fun v m => ∃ bb, v = .pointer (some ⟨bb, 0, none⟩) ∧ m = [(bb, brB oa N cp 0)]) := by
  refine Trip_of Tryd.func25 rfl (by show 1 ≤ _; decide) (args := [.slice oa N cp]) fun c h0 hex => ?_
  refine go _ ?_
  refine ro_build1 (vs := [.slice oa N cp, .int .i64 0, .int .i64 (-1)]) rfl rfl z93 rfl rfl rfl rfl ?_
  refine go _ ?_
  refine ro_box rfl rfl rfl hex fun bb hbb => ?_
  refine go _ ?_
  refine J_ret ?_
  exact ends_retS [2] ⟨bb, rfl, rfl⟩

/-- Seek, as skipFrame calls it. -/
theorem bseek_t (oa : Option Addr) (N cp bb p : Nat) (hN : N < 2 ^ 60) (hp : p < 2 ^ 60) (off : Nat) (wh : Nat) (hw : wh = 0 ∨ (wh = 1 ∧ off = 0) ∨ (wh = 2 ∧ off = 0)) (ho : off < 2 ^ 61) :
    Trip Tryd.prog G 114 #[.pointer (some ⟨bb, 0, none⟩), .int .i64 off, .int .i64 wh] [(bb, brB oa N cp p)] (fun v m =>
      v = .tuple #[.int .i64 ((if wh = 0 then off else if wh = 1 then p else N : Nat) : Int), .nilIface] ∧ m = [(bb, brB oa N cp (if wh = 0 then off else if wh = 1 then p else N))]) := by
  refine Trip_of Tryd.func114 rfl (by show 3 ≤ _; decide) (args := [.pointer (some ⟨bb, 0, none⟩), .int .i64 off, .int .i64 wh]) fun c h0 hex => ?_
  rcases hw with rfl | ⟨rfl, rfl⟩ | ⟨rfl, rfl⟩
  · refine go _ ?_
    refine J_condP rfl (fun h => absurd h (by omega)) (fun _ => ?_)
    refine go _ ?_
    refine J_ret ?_
    exact ends_retS [6, 7] (junk := []) ⟨rfl, rfl⟩ rfl (.cons (blk_tab rfl rfl rfl rfl) .nil)
  · refine go _ ?_
    refine J_condP rfl (fun h => absurd h (by omega)) (fun _ => ?_)
    refine go _ ?_
    refine J_ret ?_
    exact ends_retS [6, 7] (junk := []) ⟨rfl, rfl⟩ rfl (.cons (blk_tab rfl rfl rfl rfl) .nil)
  · refine go _ ?_
    refine J_condP rfl (fun h => absurd h (by omega)) (fun _ => ?_)
    refine go _ ?_
    refine J_ret ?_
    exact ends_retS [6, 7] (junk := []) ⟨rfl, rfl⟩ rfl (.cons (blk_tab rfl rfl rfl rfl) .nil)

theorem bseek0 (oa : Option Addr) (N cp bb p : Nat) (hN : N < 2 ^ 60) (hp : p < 2 ^ 60) (off : Nat) (ho : off < 2 ^ 61) :
    Trip Tryd.prog G 114 #[.pointer (some ⟨bb, 0, none⟩), .int .i64 off, .int .i64 0] [(bb, brB oa N cp p)] (fun v m => v = .tuple #[.int .i64 off, .nilIface] ∧ m = [(bb, brB oa N cp off)]) :=
  (bseek_t oa N cp bb p hN hp off 0 (.inl rfl) ho).mono fun _ _ h => h
theorem bseek1 (oa : Option Addr) (N cp bb p : Nat) (hN : N < 2 ^ 60) (hp : p < 2 ^ 60) :
    Trip Tryd.prog G 114 #[.pointer (some ⟨bb, 0, none⟩), .int .i64 0, .int .i64 1] [(bb, brB oa N cp p)] (fun v m => v = .tuple #[.int .i64 p, .nilIface] ∧ m = [(bb, brB oa N cp p)]) :=
  (bseek_t oa N cp bb p hN hp 0 1 (.inr (.inl ⟨rfl, rfl⟩)) (by omega)).mono fun _ _ h => h
theorem bseek2 (oa : Option Addr) (N cp bb p : Nat) (hN : N < 2 ^ 60) (hp : p < 2 ^ 60) :
    Trip Tryd.prog G 114 #[.pointer (some ⟨bb, 0, none⟩), .int .i64 0, .int .i64 2] [(bb, brB oa N cp p)] (fun v m => v = .tuple #[.int .i64 N, .nilIface] ∧ m = [(bb, brB oa N cp N)]) :=
  (bseek_t oa N cp bb p hN hp 0 2 (.inr (.inr ⟨rfl, rfl⟩)) (by omega)).mono fun _ _ h => h

theorem rfull_b (S : Sent G) (dat : Nat → Nat) (oa : Option Addr) (N cp bb : Nat) (hv : View G oa N cp dat) (hN : N < 2 ^ 60) (p : Nat) (hp : p ≤ N) (rb : Nat) (x : Int) (s : RS) (n : Nat) (hn : n ≤ 16) :
    Trip Tryd.prog G 36 #[.iface 65 (.pointer (some ⟨bb, 0, none⟩)), .slice (some ⟨rb, 28, none⟩) n 16] ((rb, rdB x s) :: [(bb, brB oa N cp p)]) (fun v m =>
      m = (rb, rdB x { s with scr := ov s.scr (min n (N - p)) dat p }) :: [(bb, brB oa N cp (p + min n (N - p)))] ∧ v = fullV S n (min n (N - p))) := by
  refine (rfull_t (bsrc S dat oa N cp bb hv hN) p rb x s n hp hn).mono ?_
  rintro v m ⟨(q' : Nat), k, h1, h2, h3, h4, h5⟩
  have h2' : k = min n (N - p) := h2
  have h3' : q' = p + k := h3
  subst h3' h2'
  exact ⟨h4, h5⟩
theorem seekIs : taOk Tryd.prog 112 65 = some true := by kernel_rfl

/-- skipFrame over a bytes.Reader. -/
theorem bskip_t (S : Sent G) (dat : Nat → Nat) (hd : ∀ i, dat i < 256) (oa : Option Addr) (N cp bb : Nat) (hv : View G oa N cp dat) (hN : N < 2 ^ 60) : SkipT (bsrc S dat oa N cp bb hv hN) := by
  intro (q0 : Nat) rb x s hok hrv hscr
  refine Trip_of Tryd.func39 rfl (by show 1 ≤ _; decide) (args := [.pointer (some ⟨rb, 0, none⟩)]) fun c h0 hex => ?_
  have hok' : q0 ≤ N := hok
  have hrv' : s.rv = .iface 65 (.pointer (some ⟨bb, 0, none⟩)) := hrv
  obtain ⟨s, rfl⟩ : ∃ s', s = { s' with rv := .iface 65 (.pointer (some ⟨bb, 0, none⟩)) } := ⟨s, by cases s; simp only at hrv'; rw [hrv']⟩
  clear hrv hrv'
  have hsc : ∀ i, s.scr i < 256 := hscr
  clear hscr
  show J Tryd.prog G c _ h0 _ _ _ ((rb, rdB x { s with rv := .iface 65 (.pointer (some ⟨bb, 0, none⟩)) }) :: [(bb, brB oa N cp q0)])
  refine go _ ?_
  refine ro_callT (rfull_b S dat oa N cp bb hv hN q0 hok' rb x { s with rv := .iface 65 (.pointer (some ⟨bb, 0, none⟩)) } 4 (by omega)) ?_
  rintro v m ⟨rfl, rfl⟩
  obtain ⟨k, hk⟩ : ∃ k, min 4 (N - q0) = k := ⟨_, rfl⟩
  rw [hk]
  by_cases h4 : 4 ≤ k
  · rw [fullV_ok h4]
    refine go _ ?_
    obtain rfl : k = 4 := by omega
    have hsc' : ∀ i, ov s.scr 4 dat q0 i < 256 := fun i => by unfold ov; split; exact hd _; exact hsc _
    refine ro_callQT (le32_q G _ rb 28 4 16 _ _ (scr_text rb x _ (by simp; exact .inl rfl) 0 4 (by omega) hsc') (by omega)) ?_
    have hle : le4 (fun i => ov s.scr 4 dat q0 (0 + i)) = le4 (fun i => dat (q0 + i)) := by simp [le4, ov]
    simp only [hle]
    have hlt := le4_lt (fun i => dat (q0 + i)) (fun i => hd _)
    generalize hz : le4 (fun i => dat (q0 + i)) = z at *
    have hpost : ∀ (x' : Int) (p : Nat) (v : Value), p ≤ N → ((4 + z ≤ N - q0 ∧ v = .nilIface ∧ p = q0 + 4 + z) ∨ (¬ 4 + z ≤ N - q0 ∧ ErrV S .z v ∧ p = N)) →
        ∃ x'' q' k, (bsrc S dat oa N cp bb hv hN).ok q' ∧ k = min 4 (N - (bsrc S dat oa N cp bb hv hN).pos q0) ∧ (rb, rdB x' { s with rv := .iface 65 (.pointer (some ⟨bb, 0, none⟩)), scr := ov s.scr 4 dat q0 }) :: [(bb, brB oa N cp p)] = (rb, rdB x'' { s with rv := .iface 65 (.pointer (some ⟨bb, 0, none⟩)), scr := ov s.scr k dat ((bsrc S dat oa N cp bb hv hN).pos q0) }) :: (bsrc S dat oa N cp bb hv hN).mem q' ∧
          ((4 + le4 (fun i => dat ((bsrc S dat oa N cp bb hv hN).pos q0 + i)) ≤ N - (bsrc S dat oa N cp bb hv hN).pos q0 ∧ v = .nilIface ∧ (bsrc S dat oa N cp bb hv hN).pos q' = (bsrc S dat oa N cp bb hv hN).pos q0 + 4 + le4 (fun i => dat ((bsrc S dat oa N cp bb hv hN).pos q0 + i))) ∨
           (¬ 4 + le4 (fun i => dat ((bsrc S dat oa N cp bb hv hN).pos q0 + i)) ≤ N - (bsrc S dat oa N cp bb hv hN).pos q0 ∧ ErrV S .z v ∧ (bsrc S dat oa N cp bb hv hN).pos q' = N)) := fun x' p v hp h =>
      ⟨x', p, 4, hp, hk.symm, rfl, by
        show (4 + le4 (fun i => dat (q0 + i)) ≤ N - q0 ∧ v = .nilIface ∧ p = q0 + 4 + le4 (fun i => dat (q0 + i))) ∨ (¬ 4 + le4 (fun i => dat (q0 + i)) ≤ N - q0 ∧ ErrV S .z v ∧ p = N)
        rw [hz]; exact h⟩
    refine go _ ?_
    refine J_condP rfl (fun h0z => ?_) (fun h0z => ?_)
    · refine go _ ?_
      refine ro_bin (op := .add) rfl rfl rfl rfl ?_
      refine go _ ?_
      refine J_ret ?_
      exact ends_ret [2] rfl (post := (rb, rdB _ _) :: [(bb, brB oa N cp (q0 + 4))]) (junk := []) (.cons (rd_boff _ _ _) (.refl _)) (hpost _ (q0 + 4) _ (by omega) (.inl ⟨by omega, rfl, by omega⟩))
    · refine go _ ?_
      refine ro_taI rfl seekIs seekZ rfl ?_
      refine go _ ?_
      refine ro_bin (op := .add) rfl rfl rfl rfl ?_
      refine go _ ?_
      refine ro_callI bmthS rfl rfl (bseek1 oa N cp bb (q0 + 4) hN (by omega)) ?_
      rintro v m ⟨rfl, rfl⟩
      refine go _ ?_
      refine ro_callI bmthS rfl rfl (bseek2 oa N cp bb (q0 + 4) hN (by omega)) ?_
      rintro v m ⟨rfl, rfl⟩
      refine go _ ?_
      refine J_condP rfl (fun hgt => ?_) (fun hle => ?_)
      · refine go _ ?_
        refine ro_bin (op := .add) rfl rfl rfl rfl ?_
        refine go _ ?_
        refine ro_callT (meof_t S rb _ { s with rv := .iface 65 (.pointer (some ⟨bb, 0, none⟩)), scr := ov s.scr 4 dat q0 } 0) ?_
        rintro v m ⟨⟨b', rfl⟩, rfl⟩
        refine go _ ?_
        refine J_ret ?_
        exact ends_retS [2] (hpost _ N _ (Nat.le_refl _) (.inr ⟨by omega, ⟨b', rfl⟩, rfl⟩))
      · refine go _ ?_
        refine ro_callI bmthS rfl rfl (bseek0 oa N cp bb N hN (by omega) (q0 + 4 + z) (by omega)) ?_
        rintro v m ⟨rfl, rfl⟩
        refine go _ ?_
        refine ro_bin (op := .add) rfl rfl rfl rfl ?_
        refine go _ ?_
        refine J_ret ?_
        exact ends_retS [2] (hpost _ (q0 + 4 + z) _ (by omega) (.inl ⟨by omega, rfl, rfl⟩))
  · have hpost : ∀ (v : Value), ErrV S .z v →
        ∃ x'' q' k', (bsrc S dat oa N cp bb hv hN).ok q' ∧ k' = min 4 (N - (bsrc S dat oa N cp bb hv hN).pos q0) ∧ (rb, rdB x { s with rv := .iface 65 (.pointer (some ⟨bb, 0, none⟩)), scr := ov s.scr k dat q0 }) :: [(bb, brB oa N cp (q0 + k))] = (rb, rdB x'' { s with rv := .iface 65 (.pointer (some ⟨bb, 0, none⟩)), scr := ov s.scr k' dat ((bsrc S dat oa N cp bb hv hN).pos q0) }) :: (bsrc S dat oa N cp bb hv hN).mem q' ∧
          ((4 + le4 (fun i => dat ((bsrc S dat oa N cp bb hv hN).pos q0 + i)) ≤ N - (bsrc S dat oa N cp bb hv hN).pos q0 ∧ v = .nilIface ∧ (bsrc S dat oa N cp bb hv hN).pos q' = (bsrc S dat oa N cp bb hv hN).pos q0 + 4 + le4 (fun i => dat ((bsrc S dat oa N cp bb hv hN).pos q0 + i))) ∨
           (¬ 4 + le4 (fun i => dat ((bsrc S dat oa N cp bb hv hN).pos q0 + i)) ≤ N - (bsrc S dat oa N cp bb hv hN).pos q0 ∧ ErrV S .z v ∧ (bsrc S dat oa N cp bb hv hN).pos q' = N)) := fun v h =>
      ⟨x, q0 + k, k, (by show q0 + k ≤ N; omega), hk.symm, rfl, .inr ⟨(by show ¬ 4 + _ ≤ N - q0; omega), h, (by show q0 + k = N; omega)⟩⟩
    by_cases h5 : k = 0
    · rw [fullV_eof h4 h5]
      refine go _ ?_
      refine ro_callT (wnonE_t S rb x _ 0) ?_
      rintro v m ⟨⟨b', rfl⟩, rfl⟩
      refine go _ ?_
      refine J_ret ?_
      exact ends_retS [2] (hpost _ ⟨b', rfl⟩)
    · rw [fullV_ueof h4 h5]
      refine go _ ?_
      refine ro_callT (wnonU_t S rb x _ 0) ?_
      rintro v m ⟨⟨b', rfl⟩, rfl⟩
      refine go _ ?_
      refine J_ret ?_
      exact ends_retS [2] (hpost _ ⟨b', rfl⟩)
end Go.Proofs.YtogmacnlpclgkaaDoor
