/-
  WALKS 6: ReadFull INTO THE SCRATCH; skipFrame.
-/
import Derived.Test.YtogmacnlpclgkaaDoorW5
namespace Go.Proofs.YtogmacnlpclgkaaDoor
open Go Go.Eng
attribute [local irreducible] RO J Trip Quiet

section
attribute [local semireducible] Trip
theorem _root_.Go.Eng.Trip.eqv {P : Program} {G : Mem} {fn : FuncId} {args : Array Value} {m : Mem} {R R' : Value → Mem → Prop} (t : Trip P G fn args m R) (h : ∀ v m', R v m' → ∃ m'', MEqv m' m'' ∧ R' v m'') : Trip P G fn args m R' :=
  fun c h' w hc o => (t c h' w hc o).mono fun _ _ ⟨v, m', h'', e, hc', o', r⟩ => by
    obtain ⟨m'', e2, r2⟩ := h _ _ r
    exact ⟨v, m'', h'', e, hc', o'.eqv e2, r2⟩
end

def ov (scr : Nat → Nat) (n : Nat) (dat : Nat → Nat) (p : Nat) : Nat → Nat := fun i => if i < n then dat (p + i) else scr i
theorem rd_scr (x : Int) (s : RS) : ∀ j, j < 16 → listG (rdL x s) (28 + j) = .int .u8 (s.scr j)
  | 0, _ => rfl | 1, _ => rfl | 2, _ => rfl | 3, _ => rfl | 4, _ => rfl | 5, _ => rfl | 6, _ => rfl | 7, _ => rfl
  | 8, _ => rfl | 9, _ => rfl | 10, _ => rfl | 11, _ => rfl | 12, _ => rfl | 13, _ => rfl | 14, _ => rfl | 15, _ => rfl
  | j + 16, h => absurd h (by omega)
theorem rd_lo (x : Int) (s : RS) (g : Nat → Nat) : ∀ i, i < 28 → listG (rdL x s) i = listG (rdL x { s with scr := g }) i
  | 0, _ => rfl | 1, _ => rfl | 2, _ => rfl | 3, _ => rfl | 4, _ => rfl | 5, _ => rfl | 6, _ => rfl | 7, _ => rfl
  | 8, _ => rfl | 9, _ => rfl | 10, _ => rfl | 11, _ => rfl | 12, _ => rfl | 13, _ => rfl | 14, _ => rfl | 15, _ => rfl
  | 16, _ => rfl | 17, _ => rfl | 18, _ => rfl | 19, _ => rfl | 20, _ => rfl | 21, _ => rfl | 22, _ => rfl | 23, _ => rfl
  | 24, _ => rfl | 25, _ => rfl | 26, _ => rfl | 27, _ => rfl
  | j + 28, h => absurd h (by omega)
theorem rd_hi (x : Int) (s : RS) (g : Nat → Nat) (j : Nat) : listG (rdL x s) (j + 44) = listG (rdL x { s with scr := g }) (j + 44) := rfl
theorem rd_put (x : Int) (s : RS) (n : Nat) (hn : n ≤ 16) (dat : Nat → Nat) (p : Nat) : (putB (rdB x s) 28 n dat p).obj = (rdB x { s with scr := ov s.scr n dat p }).obj := by
  refine obj_congr fun i _ => ?_
  show blit (listG (rdL x s)) 28 n (byteG dat p) i = listG (rdL x { s with scr := ov s.scr n dat p }) i
  by_cases h1 : i < 28
  · rw [blit_out _ _ _ _ _ (by omega)]; exact rd_lo x s _ i h1
  · by_cases h2 : i < 44
    · obtain ⟨j, rfl⟩ : ∃ j, i = 28 + j := ⟨i - 28, by omega⟩
      rw [rd_scr x { s with scr := ov s.scr n dat p } j (by omega)]
      by_cases h3 : j < n
      · rw [blit_in _ _ _ _ _ (by omega) (by omega)]
        simp only [byteG, ov, if_pos h3]; rw [show 28 + j - 28 = j by omega]
      · rw [blit_out _ _ _ _ _ (by omega), rd_scr x s j (by omega)]
        simp only [ov, if_neg h3]
    · obtain ⟨j, rfl⟩ : ∃ j, i = j + 44 := ⟨i - 44, by omega⟩
      rw [blit_out _ _ _ _ _ (by omega)]; exact rd_hi x s _ j

variable {G : Mem} {S : Sent G} {dat : Nat → Nat} {N : Nat}

theorem rfull_t (src : Source S dat N) (q0 : src.σ) (rb : Nat) (x : Int) (s : RS) (n : Nat) (hok : src.ok q0) (hn : n ≤ 16) :
    Trip Tryd.prog G 36 #[.iface src.t src.rv, .slice (some ⟨rb, 28, none⟩) n 16] ((rb, rdB x s) :: src.mem q0) (fun v m =>
      ∃ q' k, src.ok q' ∧ k = min n (N - src.pos q0) ∧ src.pos q' = src.pos q0 + k ∧ m = (rb, rdB x { s with scr := ov s.scr k dat (src.pos q0) }) :: src.mem q' ∧ v = fullV S n k) := by
  refine (full_t src q0 rb 28 n 16 (rdB x s) hok rfl (by show _ ≤ 83; omega) hn (by omega)).eqv ?_
  rintro v m ⟨q', k, h1, h2, h3, rfl, h4⟩
  exact ⟨_, MEqv.cons (rd_put x s k (by omega) dat _) (.refl _), q', k, h1, h2, h3, rfl, h4⟩

theorem wnonE_t (S : Sent G) (rb : Nat) (x : Int) (s : RS) (off : Int) : Trip Tryd.prog G 41 #[.pointer (some ⟨rb, 0, none⟩), .int .i64 off, .iface 122 (.pointer (some ⟨S.eb, S.eo, none⟩))] [(rb, rdB x s)] (fun v m => ErrV S .z v ∧ m = [(rb, rdB x s)]) :=
  wrapNonEOF_t G S rb (rdB x s) x off .eof S.eofV (.inl rfl) rfl (by show 6 < 83; decide) rfl
theorem wnonU_t (S : Sent G) (rb : Nat) (x : Int) (s : RS) (off : Int) : Trip Tryd.prog G 41 #[.pointer (some ⟨rb, 0, none⟩), .int .i64 off, .iface 122 (.pointer (some ⟨S.ub, S.uo, none⟩))] [(rb, rdB x s)] (fun v m => ErrV S .z v ∧ m = [(rb, rdB x s)]) :=
  wrapNonEOF_t G S rb (rdB x s) x off .ueof S.ueofV (.inr rfl) rfl (by show 6 < 83; decide) rfl
theorem merr_t (S : Sent G) (rb : Nat) (x : Int) (s : RS) (off : Int) (str : ByteArray) : Trip Tryd.prog G 40 #[.pointer (some ⟨rb, 0, none⟩), .int .i64 off, .string str] [(rb, rdB x s)] (fun v m => ErrV S .z v ∧ m = [(rb, rdB x s)]) :=
  makeError_t G S rb (rdB x s) x off str (by show 6 < 83; decide) rfl
theorem meof_t (S : Sent G) (rb : Nat) (x : Int) (s : RS) (off : Int) : Trip Tryd.prog G 48 #[.pointer (some ⟨rb, 0, none⟩), .int .i64 off] [(rb, rdB x s)] (fun v m => ErrV S .z v ∧ m = [(rb, rdB x s)]) :=
  makeEOFError_t G S rb (rdB x s) x off (by show 6 < 83; decide) rfl
theorem wueof_t (S : Sent G) (rb : Nat) (x : Int) (s : RS) (off : Int) : Trip Tryd.prog G 37 #[.pointer (some ⟨rb, 0, none⟩), .int .i64 off, .iface 122 (.pointer (some ⟨S.ub, S.uo, none⟩))] [(rb, rdB x s)] (fun v m => ErrV S .z v ∧ m = [(rb, rdB x s)]) :=
  wrapError_z G S rb (rdB x s) x off (by show 6 < 83; decide) rfl S.ub S.uo [] S.U1 (by simp [S.u1]) S.u1f (fun _ => S.ne)

/-- The scratch as a text. -/
theorem scr_text {m : Mem} (rb : Nat) (x : Int) (s : RS) (hm : (rb, rdB x s) ∈ m) (o n : Nat) (h : o + n ≤ 16) (hb : ∀ i, s.scr i < 256) : Text m rb (28 + o) n (fun i => s.scr (o + i)) (rdB x s) :=
  ⟨hm, by show _ ≤ 83; omega, fun i hi => by rw [Nat.add_assoc]; exact rd_scr x s (o + i) (by omega), fun i => hb _⟩

theorem rd_boff (x y : Int) (s : RS) : ((rdB x s).st 6 (.int .i64 y)).obj = (rdB y s).obj := blk_tab rfl rfl rfl rfl
theorem seekZ : (Tryd.prog.info? 112).bind (·.zero) = some .nilIface := by kernel_rfl

/-- What skipFrame does with a skippable frame, of which the magic number has been read. -/
def SkipT (src : Source S dat N) : Prop := ∀ (q0 : src.σ) (rb : Nat) (x : Int) (s : RS), src.ok q0 → s.rv = .iface src.t src.rv → (∀ i, s.scr i < 256) →
    Trip Tryd.prog G 39 #[.pointer (some ⟨rb, 0, none⟩)] ((rb, rdB x s) :: src.mem q0) (fun v m =>
      ∃ x' q' k, src.ok q' ∧ k = min 4 (N - src.pos q0) ∧ m = (rb, rdB x' { s with scr := ov s.scr k dat (src.pos q0) }) :: src.mem q' ∧
        ((4 + le4 (fun i => dat (src.pos q0 + i)) ≤ N - src.pos q0 ∧ v = .nilIface ∧ src.pos q' = src.pos q0 + 4 + le4 (fun i => dat (src.pos q0 + i))) ∨
         (¬ 4 + le4 (fun i => dat (src.pos q0 + i)) ≤ N - src.pos q0 ∧ ErrV S .z v ∧ src.pos q' = N)))

theorem skip_t (src : Source S dat N) (hd : ∀ i, dat i < 256) (hta : taOk Tryd.prog 112 src.t = some false) : SkipT src := by
  intro q0 rb x s hok hrv hscr
  refine Trip_of Tryd.func39 rfl (by show 1 ≤ _; decide) (args := [.pointer (some ⟨rb, 0, none⟩)]) fun c h0 hex => ?_
  have lim := src.le q0 hok
  obtain ⟨s, rfl⟩ : ∃ s', s = { s' with rv := .iface src.t src.rv } := ⟨s, by cases s; simp only at hrv; rw [hrv]⟩
  clear hrv
  have hsc : ∀ i, s.scr i < 256 := hscr
  clear hscr
  refine run _ ?_
  refine ro_arrTo 4 rfl rfl rfl rfl (by omega) rfl ?_
  refine runO _ ?_
  refine ro_callT (rfull_t src q0 rb x { s with rv := .iface src.t src.rv } 4 hok (by omega)) ?_
  rintro v m ⟨q', k, h1, h2, h3, rfl, rfl⟩
  by_cases h4 : 4 ≤ k
  · rw [fullV_ok h4]
    refine runO _ ?_
    refine run _ ?_
    obtain rfl : k = 4 := by omega
    have hsc' : ∀ i, ov s.scr 4 dat (src.pos q0) i < 256 := fun i => by unfold ov; split; exact hd _; exact hsc _
    refine ro_arrTo 4 rfl rfl rfl rfl (by omega) rfl ?_
    refine runO _ ?_
    refine ro_callQT (le32_q G _ rb 28 4 16 _ _ (scr_text rb x _ (by simp; exact .inl rfl) 0 4 (by omega) hsc') (by omega)) ?_
    have hle : le4 (fun i => ov s.scr 4 dat (src.pos q0) (0 + i)) = le4 (fun i => dat (src.pos q0 + i)) := by simp [le4, ov]
    simp only [hle]
    have hlt := le4_lt (fun i => dat (src.pos q0 + i)) (fun i => hd _)
    generalize hz : le4 (fun i => dat (src.pos q0 + i)) = z at *
    refine runO _ ?_
    refine run _ ?_
    refine J_condP rfl (fun h0z => ?_) (fun h0z => ?_)
    · refine run _ ?_
      refine ro_bin (op := .add) rfl rfl rfl rfl ?_
      refine runO _ ?_
      refine run _ ?_
      refine J_ret ?_
      exact ends_ret [2] rfl (post := (rb, rdB _ _) :: src.mem q') (junk := []) (.cons (rd_boff _ _ _) (by simpa using MEqv.refl _))
        ⟨_, q', 4, h1, h2, rfl, .inl ⟨by omega, rfl, by omega⟩⟩
    · refine run _ ?_
      refine ro_taI rfl hta seekZ rfl ?_
      refine runO _ ?_
      refine run _ ?_
      refine ro_callTF (discard_t src q' h1 z (by omega)) ?_
      rintro v m ⟨q2, k2, g1, g2, g3, rfl, rfl⟩
      by_cases hk2 : z ≤ k2
      · rw [if_pos hk2]
        refine runO _ ?_
        refine run _ ?_
        refine ro_bin (op := .add) rfl rfl rfl rfl ?_
        refine runO _ ?_
        refine run _ ?_
        refine J_ret ?_
        exact ends_ret [2] rfl (post := (rb, rdB _ _) :: src.mem q2) (junk := []) (.cons (rd_boff _ _ _) (by simpa using MEqv.refl _))
          ⟨_, q2, 4, g1, h2, rfl, .inl ⟨by omega, rfl, by omega⟩⟩
      · rw [if_neg hk2]
        refine runO _ ?_
        refine run _ ?_
        refine ro_callT (wnonE_t S rb x _ _) ?_
        rintro v m ⟨hv, rfl⟩
        obtain ⟨b', rfl⟩ := hv
        refine runO _ ?_
        refine run _ ?_
        refine J_ret ?_
        exact ends_retS [2] ⟨x, q2, 4, g1, h2, rfl, .inr ⟨by omega, ⟨b', rfl⟩, by omega⟩⟩
  · by_cases h5 : k = 0
    · rw [fullV_eof h4 h5]
      refine runO _ ?_
      refine run _ ?_
      refine ro_callT (wnonE_t S rb x _ 0) ?_
      rintro v m ⟨hv, rfl⟩
      obtain ⟨b', rfl⟩ := hv
      refine runO _ ?_
      refine run _ ?_
      refine J_ret ?_
      exact ends_retS [2] ⟨x, q', k, h1, h2, rfl, .inr ⟨by omega, ⟨b', rfl⟩, by omega⟩⟩
    · rw [fullV_ueof h4 h5]
      refine runO _ ?_
      refine run _ ?_
      refine ro_callT (wnonU_t S rb x _ 0) ?_
      rintro v m ⟨hv, rfl⟩
      obtain ⟨b', rfl⟩ := hv
      refine runO _ ?_
      refine run _ ?_
      refine J_ret ?_
      exact ends_retS [2] ⟨x, q', k, h1, h2, rfl, .inr ⟨by omega, ⟨b', rfl⟩, by omega⟩⟩
end Go.Proofs.YtogmacnlpclgkaaDoor
