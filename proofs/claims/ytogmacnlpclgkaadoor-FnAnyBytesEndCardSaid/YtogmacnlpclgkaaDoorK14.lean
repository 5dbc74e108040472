/-
  TEXTS MERGED: W13, H1.
-/
import Derived.Test.YtogmacnlpclgkaaDoorK13
/-! WALKS 13: bytes.Reader as a source. -/
namespace Go.Proofs.YtogmacnlpclgkaaDoor
open Go Go.Eng
attribute [local irreducible] RO J Trip Quiet
variable {G : Mem}

def brB (oa : Option Addr) (N cp p : Nat) : Blk := listB [.slice oa N cp, .int .i64 p, .int .i64 (-1)] 93

theorem bread_t (S : Sent G) (dat : Nat → Nat) (oa : Option Addr) (N cp bb p : Nat) (hv : View G oa N cp dat) (hN : N < 2 ^ 60) (hp : p ≤ N) (b o len cap : Nat) (B : Blk) (hfr : B.fr = (0, 0)) (ho : o + len ≤ B.n) (_hc : len ≤ cap) :
    Trip Tryd.prog G 113 #[.pointer (some ⟨bb, 0, none⟩), .slice (some ⟨b, o, none⟩) len cap] ((b, B) :: [(bb, brB oa N cp p)]) (fun v m =>
      ∃ k, k = min len (N - p) ∧ v = .tuple #[.int .i64 k, if p < N then .nilIface else S.eofV] ∧ m = (b, putB B o k dat p) :: [(bb, brB oa N cp (p + k))]) := by
  refine Trip_of Tryd.func113 rfl (by show 2 ≤ _; decide) (args := [.pointer (some ⟨bb, 0, none⟩), .slice (some ⟨b, o, none⟩) len cap]) fun c h0 hex => ?_
  have hcp := hv.le
  refine go _ ?_
  refine J_condP rfl (fun hge => ?_) (fun hlt => ?_)
  · refine go _ ?_
    refine ro_loadA rfl rfl (by simp [S.e0]) S.e0n S.e0g rfl ?_
    refine go _ ?_
    refine J_ret ?_
    exact ends_retS [4, 5] ⟨0, by omega, by rw [if_neg (by omega)]; rfl, rfl⟩ rfl (.cons (by unfold putB; rw [blit_zero]) (.refl _))
  · have hlt' : p < N := by omega
    refine go _ ?_
    refine ro_slV p N hv rfl rfl rfl rfl rfl rfl rfl hp hcp rfl ?_
    obtain ⟨src, hsrc, hsr⟩ := (hv.sub (l := p) (h := N) hp (Nat.le_refl _)).src
    refine go _ ?_
    refine ro_copy (s := 0) (k := N - p) (src := src) rfl rfl rfl rfl (hsrc.imp (fun ⟨b, o, cp, B, h1, h2, h3, h4⟩ => ⟨b, o, cp, B, h1, List.mem_append.2 (.inr h2), h3, h4⟩) id) (fun j hj => by rw [hsr j (by omega)]; rfl) .here hfr (by omega) hex rfl ?_
    have hmn : min (N - p) len ≤ N - p := Nat.min_le_left _ _
    have hml : min (N - p) len ≤ len := Nat.min_le_right _ _
    have hmm : min (N - p) len = min len (N - p) := Nat.min_comm _ _
    generalize min (N - p) len = k at *
    refine go _ ?_
    refine J_ret ?_
    refine ends_retS [4, 5] (junk := []) ⟨k, hmm, by rw [if_pos hlt']; rfl, rfl⟩ rfl ?_
    refine .cons (obj_congr fun i _ => ?_) (.cons (blk_tab rfl rfl rfl rfl) .nil)
    show blit B.g o (k * (0 + 1)) src i = blit B.g o k (byteG dat p) i
    rw [show k * (0 + 1) = k by omega]
    by_cases hi : o ≤ i ∧ i < o + k
    · rw [blit_in _ _ _ _ _ hi.1 hi.2, blit_in _ _ _ _ _ hi.1 hi.2, hsr _ (by omega)]; rfl
    · rw [blit_out _ _ _ _ _ (by omega), blit_out _ _ _ _ _ (by omega)]

theorem bmth : mthd Tryd.prog 65 "Read" = some 113 := by kernel_rfl
theorem bmthS : mthd Tryd.prog 65 "Seek" = some 114 := by kernel_rfl

/-- bytes.Reader as a reader. -/
def bsrc (S : Sent G) (dat : Nat → Nat) (oa : Option Addr) (N cp bb : Nat) (hv : View G oa N cp dat) (hN : N < 2 ^ 60) : Source S dat N where
  σ := Nat
  mem p := [(bb, brB oa N cp p)]
  pos p := p
  ok p := p ≤ N
  t := 65
  e := 93
  rv := .pointer (some ⟨bb, 0, none⟩)
  fid := 113
  ptr := rfl
  mth := bmth
  go := rfl
  le _ h := h
  rd := by
    intro p b o len cap B hok hfr ho hc
    refine (bread_t S dat oa N cp bb p hv hN hok b o len cap B hfr ho hc).mono ?_
    rintro v m ⟨k, h1, h2, h3⟩
    exact ⟨p + k, k, by omega, by omega, rfl, fun h5 h6 => by omega, h2, h3⟩

theorem bnew_t (oa : Option Addr) (N cp : Nat) : Trip Tryd.prog G 25 #[.slice oa N cp] [] (fun v m => ∃ bb, v = .pointer (some ⟨bb, 0, none⟩) ∧ m = [(bb, brB oa N cp 0)]) := by
  refine Trip_of Tryd.func25 rfl (by show 1 ≤ _; decide) (args := [.slice oa N cp]) fun c h0 hex => ?_
  refine go _ ?_
  refine ro_build1 (vs := [.slice oa N cp, .int .i64 0, .int .i64 (-1)]) rfl rfl z93 rfl rfl rfl rfl ?_
  refine go _ ?_
  refine ro_box rfl rfl rfl hex fun bb hbb => ?_
  refine go _ ?_
  refine J_ret ?_
  exact ends_retS [2] ⟨bb, rfl, rfl⟩

/-- Seek, as skipFrame calls it. -/
theorem bseek_t (oa : Option Addr) (N cp bb p : Nat) (hN : N < 2 ^ 60) (hp : p < 2 ^ 60) (off : Nat) (wh : Nat) (hw : wh = 0 ∨ (wh = 1 ∧ off = 0) ∨ (wh = 2 ∧ off = 0)) (ho : off < 2 ^ 61) :
    Trip Tryd.prog G 114 #[.pointer (some ⟨bb, 0, none⟩), .int .i64 off, .int .i64 wh] [(bb, brB oa N cp p)] (fun v m =>
      v = .tuple #[.int .i64 ((if wh = 0 then off else if wh = 1 then p else N : Nat) : Int), .nilIface] ∧ m = [(bb, brB oa N cp (if wh = 0 then off else if wh = 1 then p else N))]) := by
  refine Trip_of Tryd.func114 rfl (by show 3 ≤ _; decide) (args := [.pointer (some ⟨bb, 0, none⟩), .int .i64 off, .int .i64 wh]) fun c h0 hex => ?_
  rcases hw with rfl | ⟨rfl, rfl⟩ | ⟨rfl, rfl⟩
  · refine go _ ?_
    refine J_condP rfl (fun h => absurd h (by omega)) (fun _ => ?_)
    refine go _ ?_
    refine J_ret ?_
    exact ends_retS [6, 7] (junk := []) ⟨rfl, rfl⟩ rfl (.cons (blk_tab rfl rfl rfl rfl) .nil)
  · refine go _ ?_
    refine J_condP rfl (fun h => absurd h (by omega)) (fun _ => ?_)
    refine go _ ?_
    refine J_ret ?_
    exact ends_retS [6, 7] (junk := []) ⟨rfl, rfl⟩ rfl (.cons (blk_tab rfl rfl rfl rfl) .nil)
  · refine go _ ?_
    refine J_condP rfl (fun h => absurd h (by omega)) (fun _ => ?_)
    refine go _ ?_
    refine J_ret ?_
    exact ends_retS [6, 7] (junk := []) ⟨rfl, rfl⟩ rfl (.cons (blk_tab rfl rfl rfl rfl) .nil)

theorem bseek0 (oa : Option Addr) (N cp bb p : Nat) (hN : N < 2 ^ 60) (hp : p < 2 ^ 60) (off : Nat) (ho : off < 2 ^ 61) :
    Trip Tryd.prog G 114 #[.pointer (some ⟨bb, 0, none⟩), .int .i64 off, .int .i64 0] [(bb, brB oa N cp p)] (fun v m => v = .tuple #[.int .i64 off, .nilIface] ∧ m = [(bb, brB oa N cp off)]) :=
  (bseek_t oa N cp bb p hN hp off 0 (.inl rfl) ho).mono fun _ _ h => h
theorem bseek1 (oa : Option Addr) (N cp bb p : Nat) (hN : N < 2 ^ 60) (hp : p < 2 ^ 60) :
    Trip Tryd.prog G 114 #[.pointer (some ⟨bb, 0, none⟩), .int .i64 0, .int .i64 1] [(bb, brB oa N cp p)] (fun v m => v = .tuple #[.int .i64 p, .nilIface] ∧ m = [(bb, brB oa N cp p)]) :=
  (bseek_t oa N cp bb p hN hp 0 1 (.inr (.inl ⟨rfl, rfl⟩)) (by omega)).mono fun _ _ h => h
theorem bseek2 (oa : Option Addr) (N cp bb p : Nat) (hN : N < 2 ^ 60) (hp : p < 2 ^ 60) :
    Trip Tryd.prog G 114 #[.pointer (some ⟨bb, 0, none⟩), .int .i64 0, .int .i64 2] [(bb, brB oa N cp p)] (fun v m => v = .tuple #[.int .i64 N, .nilIface] ∧ m = [(bb, brB oa N cp N)]) :=
  (bseek_t oa N cp bb p hN hp 0 2 (.inr (.inr ⟨rfl, rfl⟩)) (by omega)).mono fun _ _ h => h

theorem rfull_b (S : Sent G) (dat : Nat → Nat) (oa : Option Addr) (N cp bb : Nat) (hv : View G oa N cp dat) (hN : N < 2 ^ 60) (p : Nat) (hp : p ≤ N) (rb : Nat) (x : Int) (s : RS) (n : Nat) (hn : n ≤ 16) :
    Trip Tryd.prog G 36 #[.iface 65 (.pointer (some ⟨bb, 0, none⟩)), .slice (some ⟨rb, 28, none⟩) n 16] ((rb, rdB x s) :: [(bb, brB oa N cp p)]) (fun v m =>
      m = (rb, rdB x { s with scr := ov s.scr (min n (N - p)) dat p }) :: [(bb, brB oa N cp (p + min n (N - p)))] ∧ v = fullV S n (min n (N - p))) := by
  refine (rfull_t (bsrc S dat oa N cp bb hv hN) p rb x s n hp hn).mono ?_
  rintro v m ⟨(q' : Nat), k, h1, h2, h3, h4, h5⟩
  have h2' : k = min n (N - p) := h2
  have h3' : q' = p + k := h3
  subst h3' h2'
  exact ⟨h4, h5⟩
theorem seekIs : taOk Tryd.prog 112 65 = some true := by kernel_rfl

/-- skipFrame over a bytes.Reader. -/
theorem bskip_t (S : Sent G) (dat : Nat → Nat) (hd : ∀ i, dat i < 256) (oa : Option Addr) (N cp bb : Nat) (hv : View G oa N cp dat) (hN : N < 2 ^ 60) : SkipT (bsrc S dat oa N cp bb hv hN) := by
  intro (q0 : Nat) rb x s hok hrv hscr
  refine Trip_of Tryd.func39 rfl (by show 1 ≤ _; decide) (args := [.pointer (some ⟨rb, 0, none⟩)]) fun c h0 hex => ?_
  have hok' : q0 ≤ N := hok
  have hrv' : s.rv = .iface 65 (.pointer (some ⟨bb, 0, none⟩)) := hrv
  obtain ⟨s, rfl⟩ : ∃ s', s = { s' with rv := .iface 65 (.pointer (some ⟨bb, 0, none⟩)) } := ⟨s, by cases s; simp only at hrv'; rw [hrv']⟩
  clear hrv hrv'
  have hsc : ∀ i, s.scr i < 256 := hscr
  clear hscr
  show J Tryd.prog G c _ h0 _ _ _ ((rb, rdB x { s with rv := .iface 65 (.pointer (some ⟨bb, 0, none⟩)) }) :: [(bb, brB oa N cp q0)])
  refine go _ ?_
  refine ro_callT (rfull_b S dat oa N cp bb hv hN q0 hok' rb x { s with rv := .iface 65 (.pointer (some ⟨bb, 0, none⟩)) } 4 (by omega)) ?_
  rintro v m ⟨rfl, rfl⟩
  obtain ⟨k, hk⟩ : ∃ k, min 4 (N - q0) = k := ⟨_, rfl⟩
  rw [hk]
  by_cases h4 : 4 ≤ k
  · rw [fullV_ok h4]
    refine go _ ?_
    obtain rfl : k = 4 := by omega
    have hsc' : ∀ i, ov s.scr 4 dat q0 i < 256 := fun i => by unfold ov; split; exact hd _; exact hsc _
    refine ro_callQT (le32_q G _ rb 28 4 16 _ _ (scr_text rb x _ (by simp; exact .inl rfl) 0 4 (by omega) hsc') (by omega)) ?_
    have hle : le4 (fun i => ov s.scr 4 dat q0 (0 + i)) = le4 (fun i => dat (q0 + i)) := by simp [le4, ov]
    simp only [hle]
    have hlt := le4_lt (fun i => dat (q0 + i)) (fun i => hd _)
    generalize hz : le4 (fun i => dat (q0 + i)) = z at *
    have hpost : ∀ (x' : Int) (p : Nat) (v : Value), p ≤ N → ((4 + z ≤ N - q0 ∧ v = .nilIface ∧ p = q0 + 4 + z) ∨ (¬ 4 + z ≤ N - q0 ∧ ErrV S .z v ∧ p = N)) →
        ∃ x'' q' k, (bsrc S dat oa N cp bb hv hN).ok q' ∧ k = min 4 (N - (bsrc S dat oa N cp bb hv hN).pos q0) ∧ (rb, rdB x' { s with rv := .iface 65 (.pointer (some ⟨bb, 0, none⟩)), scr := ov s.scr 4 dat q0 }) :: [(bb, brB oa N cp p)] = (rb, rdB x'' { s with rv := .iface 65 (.pointer (some ⟨bb, 0, none⟩)), scr := ov s.scr k dat ((bsrc S dat oa N cp bb hv hN).pos q0) }) :: (bsrc S dat oa N cp bb hv hN).mem q' ∧
          ((4 + le4 (fun i => dat ((bsrc S dat oa N cp bb hv hN).pos q0 + i)) ≤ N - (bsrc S dat oa N cp bb hv hN).pos q0 ∧ v = .nilIface ∧ (bsrc S dat oa N cp bb hv hN).pos q' = (bsrc S dat oa N cp bb hv hN).pos q0 + 4 + le4 (fun i => dat ((bsrc S dat oa N cp bb hv hN).pos q0 + i))) ∨
           (¬ 4 + le4 (fun i => dat ((bsrc S dat oa N cp bb hv hN).pos q0 + i)) ≤ N - (bsrc S dat oa N cp bb hv hN).pos q0 ∧ ErrV S .z v ∧ (bsrc S dat oa N cp bb hv hN).pos q' = N)) := fun x' p v hp h =>
      ⟨x', p, 4, hp, hk.symm, rfl, by
        show (4 + le4 (fun i => dat (q0 + i)) ≤ N - q0 ∧ v = .nilIface ∧ p = q0 + 4 + le4 (fun i => dat (q0 + i))) ∨ (¬ 4 + le4 (fun i => dat (q0 + i)) ≤ N - q0 ∧ ErrV S .z v ∧ p = N)
        rw [hz]; exact h⟩
    refine go _ ?_
    refine J_condP rfl (fun h0z => ?_) (fun h0z => ?_)
    · refine go _ ?_
      refine ro_bin (op := .add) rfl rfl rfl rfl ?_
      refine go _ ?_
      refine J_ret ?_
      exact ends_ret [2] rfl (post := (rb, rdB _ _) :: [(bb, brB oa N cp (q0 + 4))]) (junk := []) (.cons (rd_boff _ _ _) (.refl _)) (hpost _ (q0 + 4) _ (by omega) (.inl ⟨by omega, rfl, by omega⟩))
    · refine go _ ?_
      refine ro_taI rfl seekIs seekZ rfl ?_
      refine go _ ?_
      refine ro_bin (op := .add) rfl rfl rfl rfl ?_
      refine go _ ?_
      refine ro_callI bmthS rfl rfl (bseek1 oa N cp bb (q0 + 4) hN (by omega)) ?_
      rintro v m ⟨rfl, rfl⟩
      refine go _ ?_
      refine ro_callI bmthS rfl rfl (bseek2 oa N cp bb (q0 + 4) hN (by omega)) ?_
      rintro v m ⟨rfl, rfl⟩
      refine go _ ?_
      refine J_condP rfl (fun hgt => ?_) (fun hle => ?_)
      · refine go _ ?_
        refine ro_bin (op := .add) rfl rfl rfl rfl ?_
        refine go _ ?_
        refine ro_callT (meof_t S rb _ { s with rv := .iface 65 (.pointer (some ⟨bb, 0, none⟩)), scr := ov s.scr 4 dat q0 } 0) ?_
        rintro v m ⟨⟨b', rfl⟩, rfl⟩
        refine go _ ?_
        refine J_ret ?_
        exact ends_retS [2] (hpost _ N _ (Nat.le_refl _) (.inr ⟨by omega, ⟨b', rfl⟩, rfl⟩))
      · refine go _ ?_
        refine ro_callI bmthS rfl rfl (bseek0 oa N cp bb N hN (by omega) (q0 + 4 + z) (by omega)) ?_
        rintro v m ⟨rfl, rfl⟩
        refine go _ ?_
        refine ro_bin (op := .add) rfl rfl rfl rfl ?_
        refine go _ ?_
        refine J_ret ?_
        exact ends_retS [2] (hpost _ (q0 + 4 + z) _ (by omega) (.inl ⟨by omega, rfl, rfl⟩))
  · have hpost : ∀ (v : Value), ErrV S .z v →
        ∃ x'' q' k', (bsrc S dat oa N cp bb hv hN).ok q' ∧ k' = min 4 (N - (bsrc S dat oa N cp bb hv hN).pos q0) ∧ (rb, rdB x { s with rv := .iface 65 (.pointer (some ⟨bb, 0, none⟩)), scr := ov s.scr k dat q0 }) :: [(bb, brB oa N cp (q0 + k))] = (rb, rdB x'' { s with rv := .iface 65 (.pointer (some ⟨bb, 0, none⟩)), scr := ov s.scr k' dat ((bsrc S dat oa N cp bb hv hN).pos q0) }) :: (bsrc S dat oa N cp bb hv hN).mem q' ∧
          ((4 + le4 (fun i => dat ((bsrc S dat oa N cp bb hv hN).pos q0 + i)) ≤ N - (bsrc S dat oa N cp bb hv hN).pos q0 ∧ v = .nilIface ∧ (bsrc S dat oa N cp bb hv hN).pos q' = (bsrc S dat oa N cp bb hv hN).pos q0 + 4 + le4 (fun i => dat ((bsrc S dat oa N cp bb hv hN).pos q0 + i))) ∨
           (¬ 4 + le4 (fun i => dat ((bsrc S dat oa N cp bb hv hN).pos q0 + i)) ≤ N - (bsrc S dat oa N cp bb hv hN).pos q0 ∧ ErrV S .z v ∧ (bsrc S dat oa N cp bb hv hN).pos q' = N)) := fun v h =>
      ⟨x, q0 + k, k, (by show q0 + k ≤ N; omega), hk.symm, rfl, .inr ⟨(by show ¬ 4 + _ ≤ N - q0; omega), h, (by show q0 + k = N; omega)⟩⟩
    by_cases h5 : k = 0
    · rw [fullV_eof h4 h5]
      refine go _ ?_
      refine ro_callT (wnonE_t S rb x _ 0) ?_
      rintro v m ⟨⟨b', rfl⟩, rfl⟩
      refine go _ ?_
      refine J_ret ?_
      exact ends_retS [2] (hpost _ ⟨b', rfl⟩)
    · rw [fullV_ueof h4 h5]
      refine go _ ?_
      refine ro_callT (wnonU_t S rb x _ 0) ?_
      rintro v m ⟨⟨b', rfl⟩, rfl⟩
      refine go _ ?_
      refine J_ret ?_
      exact ends_retS [2] (hpost _ ⟨b', rfl⟩)
end Go.Proofs.YtogmacnlpclgkaaDoor

/-! WALKS 7, FIRST PART: what a frame's header says; readFrameHeader behind its third read. -/
namespace Go.Proofs.YtogmacnlpclgkaaDoor
open Go Go.Eng
attribute [local irreducible] RO J Trip Quiet

/-! What a frame's header says -/
section
variable (dat : Nat → Nat) (N : Nat)
def magicAt (p : Nat) : Nat := le4 (fun i => dat (p + i))
def isSkip (p : Nat) : Bool := decide (4 ≤ N - p) && decide (407710288 ≤ magicAt dat p) && decide (magicAt dat p ≤ 407710303)
/-- A skippable frame stands here, whole. -/
def wholeSkip (p : Nat) : Bool := isSkip dat N p && decide (4 + magicAt dat (p + 4) ≤ N - (p + 4))
def skipTo : Nat → Nat → Nat
  | 0, p => p
  | f + 1, p => if wholeSkip dat N p then skipTo f (p + 8 + magicAt dat (p + 4)) else p

/-- The first byte's fields: one segment, how many bytes the window, the dictionary's number, the size have. -/
def hSingle (d : Nat) : Bool := d / 32 % 2 == 1
def hWin (d : Nat) : Nat := if hSingle d then 0 else 1
def hDict (d : Nat) : Nat := if d % 4 = 3 then 4 else d % 4
def hFcs (d : Nat) : Nat := if d / 64 = 0 then (if hSingle d then 1 else 0) else 2 ^ (d / 64)
def hSum (d : Nat) : Bool := d / 4 % 2 == 1
def hAll (d : Nat) : Nat := hWin d + hDict d + hFcs d
def hSize (d p : Nat) : Nat :=
  if hFcs d = 0 then 0 else if hFcs d = 1 then dat p else if hFcs d = 2 then 256 + le2 (fun i => dat (p + i)) else if hFcs d = 4 then le4 (fun i => dat (p + i)) else le8 (fun i => dat (p + i))
def hWindow (w : Nat) : Nat := 2 ^ (10 + w / 8) + 2 ^ (10 + w / 8) / 8 * (w % 8)
def hZero (p n : Nat) : Bool := (List.range n).all fun i => dat (p + i) == 0

inductive HdrR
  | short
  | bad (sum : Option Bool) (pos : Nat)
  | ok (sum known : Bool) (size win pos : Nat)
def hdrAt (p : Nat) : HdrR :=
  if N - p < 4 then .short
  else if magicAt dat p ≠ 4247762216 then (if isSkip dat N p then .bad none N else .bad none (p + 4))
  else if N - (p + 4) < 1 then .bad none N
  else
    let d := dat (p + 4)
    if d / 8 % 2 = 1 then .bad none (p + 5)
    else if N - (p + 5) < hAll d then .bad (some (hSum d)) N
    else if hZero dat (p + 5 + hWin d) (hDict d) = false then .bad (some (hSum d)) (p + 5 + hAll d)
    else
      let size := hSize dat d (p + 5 + hWin d + hDict d)
      .ok (hSum d) (hFcs d != 0) size (min 8388608 (if hSingle d then size else hWindow (dat (p + 5)))) (p + 5 + hAll d)
end

def RS.setSum (s : RS) (scr : Nat → Nat) : Option Bool → RS
  | none => { s with scr := scr }
  | some b => { s with scr := scr, sum := b, xl := bif b then 0 else s.xl, xv := fun i => bif b then [6983438078262162902, 14029467366897019727, 0, 7046029288634856825].getD i 0 else s.xv i, xb := fun i => bif b then 0 else s.xb i, xc := bif b then 0 else s.xc }
def RS.setHdr (s : RS) (known : Bool) (size win : Nat) (wd : Value) : RS :=
  { s with saw := true, one := true, unk := !known, rem := size, r1 := 1, r2 := 4, r3 := 8, hb := 0, wsz := win, wd := wd, wo := 0, st0 := .slice none 0 0, st1 := .slice none 0 0, st2 := .slice none 0 0 }

variable {G : Mem} {S : Sent G} {dat : Nat → Nat} {N : Nat}

/-- What readFrameHeader comes to, of state s at place p. -/
def HdrPost (src : Source S dat N) (rb : Nat) (s : RS) (p : Nat) (wm : Mem) (v : Value) (m : Mem) : Prop :=
  ∃ x' scr' q', src.ok q' ∧ (∀ i, scr' i < 256) ∧
    (let p1 := skipTo dat N N p
     let s1 : RS := { s with one := s.one || decide (p1 ≠ p) }
     match hdrAt dat N p1 with
     | .short => src.pos q' = N ∧ MEqv m ((rb, rdB x' { s1 with scr := scr' }) :: (src.mem q' ++ wm)) ∧ ErrV S (if N - p1 = 0 ∧ s1.one = true then .eof else .z) v
     | .bad sum pos => src.pos q' = pos ∧ MEqv m ((rb, rdB x' (s1.setSum scr' sum)) :: (src.mem q' ++ wm)) ∧ ErrV S .z v
     | .ok sum known size win pos => src.pos q' = pos ∧ v = .nilIface ∧ ∃ wd' wm', SlM 1 wd' 0 (fun _ => undef) wm' ∧ MEqv m ((rb, rdB x' ((s1.setSum scr' (some sum)).setHdr known size win wd')) :: (src.mem q' ++ wm')))

theorem bits_all : (List.range 256).all (fun d => ((d &&& 32) != 0) == hSingle d && ((d &&& 8) != 0) == (d / 8 % 2 == 1) && ((d &&& 4) != 0) == hSum d && (d &&& 3) == d % 4 && (d &&& 7) == d % 8) = true := by kernel_rfl
theorem bits_of {d : Nat} (h : d < 256) : ((d &&& 32 ≠ 0) ↔ hSingle d = true) ∧ ((d &&& 8 ≠ 0) ↔ d / 8 % 2 = 1) ∧ ((d &&& 4 ≠ 0) ↔ hSum d = true) ∧ d &&& 3 = d % 4 ∧ d &&& 7 = d % 8 := by
  have := List.all_eq_true.1 bits_all d (List.mem_range.2 h)
  simp only [Bool.and_eq_true, beq_iff_eq] at this
  obtain ⟨⟨⟨⟨h1, h2⟩, h3⟩, h4⟩, h5⟩ := this
  refine ⟨?_, ?_, ?_, h4, h5⟩
  · rw [← h1]; simp
  · rw [show (d / 8 % 2 = 1) ↔ ((d / 8 % 2 == 1) = true) by simp, ← h2]; simp
  · rw [← h3]; simp

theorem ov_lt {g : Nat → Nat} {dat : Nat → Nat} (hg : ∀ i, g i < 256) (hd : ∀ i, dat i < 256) (n p : Nat) : ∀ i, ov g n dat p i < 256 := fun i => by unfold ov; split; exact hd _; exact hg _

theorem rd_sum (x : Int) (s : RS) : ∀ b, ((rdB x s).st 2 (.bool b)).obj = (rdB x { s with sum := b }).obj
  | true => blk_tab rfl rfl rfl rfl
  | false => blk_tab rfl rfl rfl rfl

theorem rd_one (x : Int) (s : RS) : ((rdB x s).st 3 (.bool true)).obj = (rdB x { s with one := true }).obj := blk_tab rfl rfl rfl rfl


theorem rd_45 (x : Int) (s : RS) (n : Nat) : ∀ b, (((rdB x s).st 4 (.bool b)).st 5 (.int .u64 n)).obj = (rdB x { s with unk := b, rem := n }).obj
  | true => blk_tab rfl rfl rfl rfl
  | false => blk_tab rfl rfl rfl rfl
theorem rd_4 (x : Int) (s : RS) : ((rdB x s).st 4 (.bool true)).obj = (rdB x { s with unk := true }).obj := blk_tab rfl rfl rfl rfl
theorem rd_5 (x : Int) (s : RS) (n : Nat) : ((rdB x s).st 5 (.int .u64 n)).obj = (rdB x { s with rem := n }).obj := blk_tab rfl rfl rfl rfl

theorem rd_hdr (x y : Int) (s : RS) : ((((((((rdB x s).st 1 (.bool true)).st 3 (.bool true)).st 6 (.int .i64 y)).st 9 (.int .u32 1)).st 10 (.int .u32 4)).st 11 (.int .u32 8)).st 13 (.int .i64 0)).obj = (rdB y { s with saw := true, one := true, r1 := 1, r2 := 4, r3 := 8, hb := 0 }).obj := blk_tab rfl rfl rfl rfl
theorem rd_st (x : Int) (s : RS) : ((((rdB x s).st 19 (.slice none 0 0)).st 20 (.slice none 0 0)).st 21 (.slice none 0 0)).obj = (rdB x { s with st0 := .slice none 0 0, st1 := .slice none 0 0, st2 := .slice none 0 0 }).obj := blk_tab rfl rfl rfl rfl

noncomputable def rfhB : Code := scopeBody Tryd.f28.body

/-- Behind the third read: the window, the dictionary, the size. -/
theorem rfh2_t (hd : ∀ i, dat i < 256) (c : World) (h0 : Base) (hex : h0.ex = false) (rb : Nat) (x1 : Int) (s : RS) (d p : Nat) (wm qm : Mem) (wl : Nat) (wc : Nat → Value) (hd4 : d < 256)
    (hscr : ∀ i, s.scr i < 256) (hscr2 : ∀ i, i < hAll d → s.scr i = dat (p + 5 + i)) (hw : SlM 1 s.wd wl wc wm) (fb : Blk) (hfb : (2, fb) ∈ G) (hfn : 0 < fb.n) (hfv : fb.g 0 = .bool false)
    (K : Fr → Mem → Prop) (R : Value → Mem → Prop)
    (hbad : hZero dat (p + 5 + hWin d) (hDict d) = false → ∀ x' v, ErrV S .z v → R v ((rb, rdB x' s) :: (qm ++ wm)))
    (hgood : hZero dat (p + 5 + hWin d) (hDict d) = true → ∀ x' wd' wm' m, SlM 1 wd' 0 (fun _ => undef) wm' →
      MEqv m ((rb, rdB x' (s.setHdr (hFcs d != 0) (hSize dat d (p + 5 + hWin d + hDict d)) (min 8388608 (if hSingle d then hSize dat d (p + 5 + hWin d + hDict d) else hWindow (dat (p + 5)))) wd')) :: (qm ++ wm')) → R .nilIface m)
    (f : Fr) :
    J Tryd.prog G c Tryd.f28.ntmps h0 (seqDrop 19 rfhB) (jumpQ 0 K (Eng.Ends Tryd.prog G c Tryd.f28 h0 R))
      (setL f [(0, .pointer (some ⟨rb, 0, none⟩)), (3, .int .i64 5), (10, .int .u8 d), (11, .bool (hSingle d)), (12, .int .i64 (hFcs d)), (13, .int .i64 (hWin d)), (14, .int .i64 (hDict d)), (16, .int .i64 (hAll d))]) ((rb, rdB x1 s) :: (qm ++ wm)) := by
  have hf8 : hFcs d ≤ 8 := by
    have hq4 : d / 64 = 0 ∨ d / 64 = 1 ∨ d / 64 = 2 ∨ d / 64 = 3 := by omega
    unfold hFcs
    split
    · split <;> omega
    · rcases hq4 with h | h | h | h <;> rw [h] <;> decide
  have hw1 : hWin d ≤ 1 := by unfold hWin; split <;> omega
  have hdc : hDict d ≤ 4 := by unfold hDict; split <;> omega
  have hA : hAll d = hWin d + hDict d + hFcs d := rfl
  refine J_seq ?_
  refine J_cut [(0, .pointer (some ⟨rb, 0, none⟩)), (3, .int .i64 5), (10, .int .u8 d), (11, .bool (hSingle d)), (12, .int .i64 (hFcs d)), (13, .int .i64 (hWin d)), (14, .int .i64 (hDict d)), (16, .int .i64 (hAll d)), (19, .int .u64 0)] ((rb, rdB x1 s) :: (qm ++ wm)) ?_ ?_
  · refine run _ ?_
    exact ⟨⟨rfl, rfl, rfl, rfl, rfl, rfl, rfl, rfl, rfl, trivial⟩, .refl _⟩
  clear f
  intro f
  refine J_seq ?_
  refine J_cut [(0, .pointer (some ⟨rb, 0, none⟩)), (3, .int .i64 5), (10, .int .u8 d), (11, .bool (hSingle d)), (12, .int .i64 (hFcs d)), (13, .int .i64 (hWin d)), (14, .int .i64 (hDict d)), (16, .int .i64 (hAll d)), (19, .int .u64 ((if hSingle d then 0 else hWindow (dat (p + 5)) : Nat) : Int))] ((rb, rdB x1 s) :: (qm ++ wm)) ?_ ?_
  · refine run _ ?_
    refine ro_not rfl rfl ?_
    refine runO _ ?_
    refine run _ ?_
    refine J_cond rfl (fun hs => ?_) (fun hs => ?_)
    · have hs' : hSingle d = false := by simpa using hs
      have hwn : hWin d = 1 := by unfold hWin; rw [hs']; rfl
      have hsc0 : s.scr 0 = dat (p + 5) := hscr2 0 (by omega)
      have hb0 := hscr 0
      have hp : 2 ^ (s.scr 0 / 8 + 10) ≤ 2 ^ 41 := Nat.pow_le_pow_right (by omega) (by omega)
      refine run _ ?_
      refine ro_andN (s.scr 0) 7 rfl rfl (by show _ < 256; omega) (by decide) rfl ?_
      rw [(bits_of hb0).2.2.2.2]
      refine runO _ ?_
      refine run _ ?_
      refine ro_shlN (k' := .u64) 1 (s.scr 0 / 8 + 10) rfl rfl (by show _ ≤ 64; omega) (by show _ < 2 ^ 64; omega) rfl ?_
      refine runO _ ?_
      refine run _ ?_
      obtain ⟨A, hAe⟩ : ∃ A, 1 * 2 ^ (s.scr 0 / 8 + 10) = A := ⟨_, rfl⟩
      have hA41 : A ≤ 2 ^ 41 := by omega
      have hmul : A / 8 * (s.scr 0 % 8) ≤ 2 ^ 38 * 7 := Nat.mul_le_mul (by omega) (by omega)
      rw [hAe]
      refine ro_quoN A 8 rfl rfl (by omega) (by show _ < 2 ^ 64; omega) rfl ?_
      refine runO _ ?_
      refine run _ ?_
      refine ro_loadA rfl rfl (by simp [hfb]) hfn hfv rfl ?_
      refine runO _ ?_
      refine run _ ?_
      refine ⟨⟨rfl, rfl, rfl, rfl, rfl, rfl, rfl, rfl, ?_, trivial⟩, .refl _⟩
      rw [hs', ← hsc0]
      have : hWindow (s.scr 0) = A + A / 8 * (s.scr 0 % 8) := by unfold hWindow; rw [Nat.add_comm 10, ← hAe, Nat.one_mul]
      rw [if_neg Bool.false_ne_true, this]
      rfl
    · have hs' : hSingle d = true := by simpa using hs
      refine run _ ?_
      exact ⟨⟨rfl, rfl, rfl, rfl, rfl, rfl, rfl, rfl, by rw [hs']; rfl, trivial⟩, .refl _⟩
  clear f
  intro f
  refine J_seq ?_
  refine J_cutP (hZero dat (p + 5 + hWin d) (hDict d) = true) [(0, .pointer (some ⟨rb, 0, none⟩)), (3, .int .i64 5), (10, .int .u8 d), (11, .bool (hSingle d)), (12, .int .i64 (hFcs d)), (13, .int .i64 (hWin d)), (14, .int .i64 (hDict d)), (16, .int .i64 (hAll d)), (19, .int .u64 ((if hSingle d then 0 else hWindow (dat (p + 5)) : Nat) : Int))] ((rb, rdB x1 s) :: (qm ++ wm)) ?_ ?_
  · refine run _ ?_
    refine J_condP rfl (fun hd0 => ?_) (fun hd0 => ?_)
    · have hd0' : hDict d ≠ 0 := by omega
      refine run _ ?_
      refine ro_arr (hWin d) (hWin d + hDict d) rfl rfl rfl rfl rfl (by omega) (by omega) (by omega) rfl ?_
      refine runO _ ?_
      refine run _ ?_
      rw [show hWin d + hDict d - hWin d = hDict d by omega]
      refine J_loopS (σ := Nat) (fun i => [(0, .pointer (some ⟨rb, 0, none⟩)), (3, .int .i64 5), (10, .int .u8 d), (11, .bool (hSingle d)), (12, .int .i64 (hFcs d)), (13, .int .i64 (hWin d)), (14, .int .i64 (hDict d)), (16, .int .i64 (hAll d)), (19, .int .u64 ((if hSingle d then 0 else hWindow (dat (p + 5)) : Nat) : Int)),
        (229, .slice (some ⟨rb, 28 + hWin d, none⟩) (hDict d) (16 - hWin d)), (230, .int .i64 (hDict d)), (231, .int .i64 i)]) (fun _ => (rb, rdB x1 s) :: (qm ++ wm))
        (fun i => i ≤ hDict d ∧ ∀ j, j < i → dat (p + 5 + hWin d + j) = 0) (fun i => hDict d - i) 0 ⟨rfl, rfl, rfl, rfl, rfl, rfl, rfl, rfl, rfl, ?_, rfl, rfl, trivial⟩ (.refl _) ⟨Nat.zero_le _, fun j hj => by omega⟩ ?_
      · rfl
      rintro i f ⟨i1, i2⟩
      refine run _ ?_
      refine J_condP rfl (fun hlt => ?_) (fun hge => ?_)
      · have hlt' : i < hDict d := by omega
        have hsc : s.scr (hWin d + i) = dat (p + 5 + (hWin d + i)) := hscr2 _ (by omega)
        have hbb := hscr (hWin d + i)
        refine run _ ?_
        refine ro_loadI (v := .int .u8 (s.scr (hWin d + i))) rfl rfl .here (by show _ < 83; omega) (by rw [Int.toNat_natCast, Nat.add_assoc]; exact rd_scr x1 s (hWin d + i) (by omega)) rfl ?_
        refine runO _ ?_
        refine run _ ?_
        refine J_condP rfl (fun hnz => ?_) (fun hnz => ?_)
        · refine run _ ?_
          refine ro_callT (merr_t S rb x1 _ _ _) ?_
          rintro v m ⟨⟨b', rfl⟩, rfl⟩
          refine runO _ ?_
          refine run _ ?_
          refine J_ret ?_
          refine ends_retS [2] (hbad ?_ x1 _ ⟨b', rfl⟩)
          cases hc : hZero dat (p + 5 + hWin d) (hDict d) with
          | false => rfl
          | true =>
            have := List.all_eq_true.1 hc i (List.mem_range.2 hlt')
            simp only [beq_iff_eq] at this
            rw [hsc, ← Nat.add_assoc, this] at hnz
            exact absurd rfl hnz
        · refine run _ ?_
          refine ⟨i + 1, by omega, ⟨by omega, fun j hj => ?_⟩, ⟨rfl, rfl, rfl, rfl, rfl, rfl, rfl, rfl, rfl, rfl, rfl, rfl, trivial⟩, .refl _⟩
          rcases Nat.lt_succ_iff_lt_or_eq.1 hj with h | h
          · exact i2 j h
          · subst h
            rw [Nat.add_assoc, ← hsc]
            simp only [ne_eq, Decidable.not_not] at hnz
            omega
      · have hie : i = hDict d := by omega
        refine run _ ?_
        refine And.intro ?_ (And.intro ⟨rfl, rfl, rfl, rfl, rfl, rfl, rfl, rfl, rfl, trivial⟩ (.refl _))
        refine List.all_eq_true.2 fun j hj => ?_
        rw [beq_iff_eq]
        exact i2 j (by rw [hie]; exact List.mem_range.1 hj)
    · refine run _ ?_
      have hd0' : hDict d = 0 := by omega
      refine ⟨by rw [hd0']; rfl, ⟨rfl, rfl, rfl, rfl, rfl, rfl, rfl, rfl, rfl, trivial⟩, .refl _⟩
  clear f
  intro hz f
  have hwd : hWin d + hDict d < 16 := by omega
  refine run _ ?_
  refine ro_arr (hWin d + hDict d) 16 rfl rfl rfl rfl rfl (by omega) (by omega) hwd rfl ?_
  refine runO _ ?_
  refine J_eqv (.cons (rd_45 x1 s 0 false) (.refl _)) ?_
  refine J_seq ?_
  have hF : hFcs d = 0 ∨ hFcs d = 1 ∨ hFcs d = 2 ∨ hFcs d = 4 ∨ hFcs d = 8 := by
    have hq4 : d / 64 = 0 ∨ d / 64 = 1 ∨ d / 64 = 2 ∨ d / 64 = 3 := by omega
    unfold hFcs
    split
    · split
      · exact .inr (.inl rfl)
      · exact .inl rfl
    · rename_i h0
      rcases hq4 with h | h | h | h
      · exact absurd h h0
      all_goals rw [h]; decide
  have htx : ∀ n, n ≤ hFcs d → ∀ i, i < n → s.scr (hWin d + hDict d + i) = dat (p + 5 + hWin d + hDict d + i) := fun n hn i hi => by
    rw [hscr2 _ (by omega)]; congr 1; omega
  refine J_cut [(0, .pointer (some ⟨rb, 0, none⟩)), (3, .int .i64 5), (11, .bool (hSingle d)), (16, .int .i64 (hAll d)), (19, .int .u64 ((if hSingle d then 0 else hWindow (dat (p + 5)) : Nat) : Int))]
    ((rb, rdB x1 { s with unk := !(hFcs d != 0), rem := hSize dat d (p + 5 + hWin d + hDict d) }) :: (qm ++ wm)) ?_ ?_
  · unfold hSize
    rcases hF with h | h | h | h | h
    · refine J_cutHere [(0, .pointer (some ⟨rb, 0, none⟩)), (3, .int .i64 5), (11, .bool (hSingle d)), (12, .int .i64 0), (16, .int .i64 (hAll d)), (19, .int .u64 ((if hSingle d then 0 else hWindow (dat (p + 5)) : Nat) : Int)), (29, .slice (some ⟨rb, 28 + (hWin d + hDict d), none⟩) (16 - (hWin d + hDict d)) (16 - (hWin d + hDict d)))] _ ⟨rfl, rfl, rfl, by show Value.int _ _ = _; rw [h]; rfl, rfl, rfl, rfl, trivial⟩ (.refl _) ?_
      clear f
      intro f
      rw [h]
      refine run _ ?_
      show slotsOk _ _ ∧ MEqv _ _
      exact ⟨⟨rfl, rfl, rfl, rfl, rfl, trivial⟩, .cons (rd_4 x1 { s with unk := false, rem := 0 }) (.refl _)⟩
    · refine J_cutHere [(0, .pointer (some ⟨rb, 0, none⟩)), (3, .int .i64 5), (11, .bool (hSingle d)), (12, .int .i64 1), (16, .int .i64 (hAll d)), (19, .int .u64 ((if hSingle d then 0 else hWindow (dat (p + 5)) : Nat) : Int)), (29, .slice (some ⟨rb, 28 + (hWin d + hDict d), none⟩) (16 - (hWin d + hDict d)) (16 - (hWin d + hDict d)))] _ ⟨rfl, rfl, rfl, by show Value.int _ _ = _; rw [h]; rfl, rfl, rfl, rfl, trivial⟩ (.refl _) ?_
      clear f
      intro f
      rw [h]
      refine run _ ?_
      have hsc : s.scr (hWin d + hDict d) = dat (p + 5 + hWin d + hDict d) := htx 1 (by omega) 0 (by omega)
      have hbb := hscr (hWin d + hDict d)
      refine ro_loadI (B := rdB x1 { s with unk := false, rem := 0 }) (v := .int .u8 (s.scr (hWin d + hDict d))) rfl rfl .here (by show 28 + (hWin d + hDict d) < 83; omega) (rd_scr x1 { s with unk := false, rem := 0 } (hWin d + hDict d) (by omega)) rfl ?_
      refine runO _ ?_
      refine run _ ?_
      rw [hsc]
      show slotsOk _ _ ∧ MEqv _ _
      exact ⟨⟨rfl, rfl, rfl, rfl, rfl, trivial⟩, .cons (rd_5 x1 { s with unk := false, rem := 0 } (dat (p + 5 + hWin d + hDict d))) (.refl _)⟩
    · refine J_cutHere [(0, .pointer (some ⟨rb, 0, none⟩)), (3, .int .i64 5), (11, .bool (hSingle d)), (12, .int .i64 2), (16, .int .i64 (hAll d)), (19, .int .u64 ((if hSingle d then 0 else hWindow (dat (p + 5)) : Nat) : Int)), (29, .slice (some ⟨rb, 28 + (hWin d + hDict d), none⟩) (16 - (hWin d + hDict d)) (16 - (hWin d + hDict d)))] _ ⟨rfl, rfl, rfl, by show Value.int _ _ = _; rw [h]; rfl, rfl, rfl, rfl, trivial⟩ (.refl _) ?_
      clear f
      intro f
      rw [h]
      refine run _ ?_
      have hle : le2 (fun i => s.scr (hWin d + hDict d + i)) = le2 (fun i => dat (p + 5 + hWin d + hDict d + i)) := by
        have e0 := htx 2 (by omega) 0 (by omega); have e1 := htx 2 (by omega) 1 (by omega); simp only [le2, e0, e1]
      have hlt : le2 (fun i => s.scr (hWin d + hDict d + i)) < 65536 := by have b0 := hscr (hWin d + hDict d + 0); have b1 := hscr (hWin d + hDict d + 1); simp only [le2]; omega
      refine ro_callQT (le16_q G _ rb (28 + (hWin d + hDict d)) (16 - (hWin d + hDict d)) (16 - (hWin d + hDict d)) _ _ (scr_text rb x1 { s with unk := false, rem := 0 } (List.mem_append.2 (.inl (List.mem_cons.2 (.inl rfl)))) (hWin d + hDict d) 2 (by omega) hscr) (by omega)) ?_
      simp only
      refine runO _ ?_
      refine run _ ?_
      rw [hle]
      show slotsOk _ _ ∧ MEqv _ _
      exact ⟨⟨rfl, rfl, rfl, rfl, rfl, trivial⟩, .cons (rd_5 x1 { s with unk := false, rem := 0 } (256 + le2 fun i => dat (p + 5 + hWin d + hDict d + i))) (.refl _)⟩
    · refine J_cutHere [(0, .pointer (some ⟨rb, 0, none⟩)), (3, .int .i64 5), (11, .bool (hSingle d)), (12, .int .i64 4), (16, .int .i64 (hAll d)), (19, .int .u64 ((if hSingle d then 0 else hWindow (dat (p + 5)) : Nat) : Int)), (29, .slice (some ⟨rb, 28 + (hWin d + hDict d), none⟩) (16 - (hWin d + hDict d)) (16 - (hWin d + hDict d)))] _ ⟨rfl, rfl, rfl, by show Value.int _ _ = _; rw [h]; rfl, rfl, rfl, rfl, trivial⟩ (.refl _) ?_
      clear f
      intro f
      rw [h]
      refine run _ ?_
      have hle : le4 (fun i => s.scr (hWin d + hDict d + i)) = le4 (fun i => dat (p + 5 + hWin d + hDict d + i)) := by
        have e0 := htx 4 (by omega) 0 (by omega); have e1 := htx 4 (by omega) 1 (by omega); have e2 := htx 4 (by omega) 2 (by omega); have e3 := htx 4 (by omega) 3 (by omega); simp only [le4, e0, e1, e2, e3]
      have hlt := le4_lt (fun i => s.scr (hWin d + hDict d + i)) (fun i => hscr _)
      refine ro_callQT (le32_q G _ rb (28 + (hWin d + hDict d)) (16 - (hWin d + hDict d)) (16 - (hWin d + hDict d)) _ _ (scr_text rb x1 { s with unk := false, rem := 0 } (List.mem_append.2 (.inl (List.mem_cons.2 (.inl rfl)))) (hWin d + hDict d) 4 (by omega) hscr) (by omega)) ?_
      simp only
      refine runO _ ?_
      refine run _ ?_
      rw [hle]
      show slotsOk _ _ ∧ MEqv _ _
      exact ⟨⟨rfl, rfl, rfl, rfl, rfl, trivial⟩, .cons (rd_5 x1 { s with unk := false, rem := 0 } (le4 fun i => dat (p + 5 + hWin d + hDict d + i))) (.refl _)⟩
    · refine J_cutHere [(0, .pointer (some ⟨rb, 0, none⟩)), (3, .int .i64 5), (11, .bool (hSingle d)), (12, .int .i64 8), (16, .int .i64 (hAll d)), (19, .int .u64 ((if hSingle d then 0 else hWindow (dat (p + 5)) : Nat) : Int)), (29, .slice (some ⟨rb, 28 + (hWin d + hDict d), none⟩) (16 - (hWin d + hDict d)) (16 - (hWin d + hDict d)))] _ ⟨rfl, rfl, rfl, by show Value.int _ _ = _; rw [h]; rfl, rfl, rfl, rfl, trivial⟩ (.refl _) ?_
      clear f
      intro f
      rw [h]
      refine run _ ?_
      have hle : le8 (fun i => s.scr (hWin d + hDict d + i)) = le8 (fun i => dat (p + 5 + hWin d + hDict d + i)) := by
        have e0 := htx 8 (by omega) 0 (by omega); have e1 := htx 8 (by omega) 1 (by omega); have e2 := htx 8 (by omega) 2 (by omega); have e3 := htx 8 (by omega) 3 (by omega); have e4 := htx 8 (by omega) (0 + 4) (by omega); have e5 := htx 8 (by omega) (1 + 4) (by omega); have e6 := htx 8 (by omega) (2 + 4) (by omega); have e7 := htx 8 (by omega) (3 + 4) (by omega); simp only [le8, le4, e0, e1, e2, e3, e4, e5, e6, e7]
      refine ro_callQT (le64_q G _ rb (28 + (hWin d + hDict d)) (16 - (hWin d + hDict d)) (16 - (hWin d + hDict d)) _ _ (scr_text rb x1 { s with unk := false, rem := 0 } (List.mem_append.2 (.inl (List.mem_cons.2 (.inl rfl)))) (hWin d + hDict d) 8 (by omega) hscr) (by omega) (Nat.le_refl _)) ?_
      simp only
      refine runO _ ?_
      refine run _ ?_
      rw [hle]
      show slotsOk _ _ ∧ MEqv _ _
      exact ⟨⟨rfl, rfl, rfl, rfl, rfl, trivial⟩, .cons (rd_5 x1 { s with unk := false, rem := 0 } (le8 fun i => dat (p + 5 + hWin d + hDict d + i))) (.refl _)⟩
  clear f
  intro f
  obtain ⟨Z, hZ⟩ : ∃ Z, hSize dat d (p + 5 + hWin d + hDict d) = Z := ⟨_, rfl⟩
  rw [hZ] at hgood ⊢
  refine J_seq ?_
  refine J_cut [(0, .pointer (some ⟨rb, 0, none⟩)), (3, .int .i64 5), (16, .int .i64 (hAll d)), (19, .int .u64 ((if hSingle d then Z else hWindow (dat (p + 5)) : Nat) : Int))]
    ((rb, rdB x1 { s with unk := !(hFcs d != 0), rem := Z }) :: (qm ++ wm)) ?_ ?_
  · refine run _ ?_
    refine J_cond rfl (fun hs => ?_) (fun hs => ?_)
    · have hs' : hSingle d = true := hs
      refine run _ ?_
      show slotsOk _ _ ∧ MEqv _ _
      exact ⟨⟨rfl, rfl, rfl, by rw [hs']; rfl, trivial⟩, .refl _⟩
    · have hs' : hSingle d = false := hs
      refine run _ ?_
      show slotsOk _ _ ∧ MEqv _ _
      exact ⟨⟨rfl, rfl, rfl, by rw [hs']; rfl, trivial⟩, .refl _⟩
  clear f
  intro f
  obtain ⟨Y, hY⟩ : ∃ Y, (if hSingle d then Z else hWindow (dat (p + 5))) = Y := ⟨_, rfl⟩
  rw [hY] at hgood ⊢
  refine J_seq ?_
  refine J_cut [(0, .pointer (some ⟨rb, 0, none⟩)), (3, .int .i64 5), (16, .int .i64 (hAll d)), (19, .int .u64 ((min 8388608 Y : Nat) : Int))]
    ((rb, rdB x1 { s with unk := !(hFcs d != 0), rem := Z }) :: (qm ++ wm)) ?_ ?_
  · refine run _ ?_
    refine J_condP rfl (fun hs => ?_) (fun hs => ?_)
    · refine run _ ?_
      show slotsOk _ _ ∧ MEqv _ _
      exact ⟨⟨rfl, rfl, rfl, by rw [Nat.min_eq_left (by omega)]; rfl, trivial⟩, .refl _⟩
    · refine run _ ?_
      show slotsOk _ _ ∧ MEqv _ _
      exact ⟨⟨rfl, rfl, rfl, by rw [Nat.min_eq_right (by omega)]; rfl, trivial⟩, .refl _⟩
  clear f
  intro f
  have hW8 : min 8388608 Y ≤ 8388608 := Nat.min_le_left _ _
  obtain ⟨W, hW⟩ : ∃ W, min 8388608 Y = W := ⟨_, rfl⟩
  rw [hW] at hgood hW8 ⊢
  refine run _ ?_
  refine ro_bin (op := .add) rfl rfl rfl rfl ?_
  refine runO _ ?_
  refine run _ ?_
  refine ro_callT (wreset_t G rb (IntKind.i64.wrap (x1 + (5 + (hAll d : Int)))) { s with unk := !(hFcs d != 0), rem := Z, saw := true, one := true, r1 := 1, r2 := 4, r3 := 8, hb := 0 } W wl wc wm hw (by omega)) ?_
    (hs := .cons (rd_hdr x1 _ { s with unk := !(hFcs d != 0), rem := Z }) (.of_perm List.perm_append_comm))
  rintro v m ⟨wd', wm', hw', rfl⟩
  refine runO _ ?_
  refine run _ ?_
  refine J_ret ?_
  refine ends_ret [2] rfl (junk := []) ?_ (hgood hz (IntKind.i64.wrap (x1 + (5 + (hAll d : Int)))) wd' wm' _ hw' (.cons (rd_st _ { s with unk := !(hFcs d != 0), rem := Z, saw := true, one := true, r1 := 1, r2 := 4, r3 := 8, hb := 0, wsz := W, wd := wd', wo := 0 }) (.of_perm (List.perm_append_comm (l₁ := wm') (l₂ := qm)))))
  simpa using MEqv.refl _
end Go.Proofs.YtogmacnlpclgkaaDoor
