/-
  WALKS 9: ZZHeader, impl.Header.
-/
import Derived.Test.YtogmacnlpclgkaaDoorW8
namespace Go.Proofs.YtogmacnlpclgkaaDoor
open Go Go.Eng
attribute [local irreducible] RO J Trip Quiet
variable {G : Mem} {S : Sent G} {dat : Nat → Nat} {N : Nat}

/-- readFrameHeader, with its memory as it is spelled here. -/
theorem rfhE_t (src : Source S dat N) (hd : ∀ i, dat i < 256) (hsk : SkipT src) (q0 : src.σ) (rb : Nat) (x : Int) (s : RS) (wm : Mem) (wl : Nat) (wc : Nat → Value) (hok : src.ok q0) (hrv : s.rv = .iface src.t src.rv) (hscr : ∀ i, s.scr i < 256) (hw : SlM 1 s.wd wl wc wm)
    (fb : Blk) (hfb : (2, fb) ∈ G) (hfn : 0 < fb.n) (hfv : fb.g 0 = .bool false) :
    Trip Tryd.prog G 28 #[.pointer (some ⟨rb, 0, none⟩)] ((rb, rdB x s) :: (src.mem q0 ++ wm)) (fun v m =>
      ∃ x' s' q' wm', src.ok q' ∧ (∀ i, s'.scr i < 256) ∧ m = (rb, rdB x' s') :: (src.mem q' ++ wm') ∧
        match hdrAt dat N (skipTo dat N N (src.pos q0)) with
        | .short => src.pos q' = N ∧ wm' = wm ∧ s' = { s with one := s.one || decide (skipTo dat N N (src.pos q0) ≠ src.pos q0), scr := s'.scr } ∧ ErrV S (if N - skipTo dat N N (src.pos q0) = 0 ∧ (s.one || decide (skipTo dat N N (src.pos q0) ≠ src.pos q0)) = true then .eof else .z) v
        | .bad sum pos => src.pos q' = pos ∧ wm' = wm ∧ s' = RS.setSum { s with one := s.one || decide (skipTo dat N N (src.pos q0) ≠ src.pos q0) } s'.scr sum ∧ ErrV S .z v
        | .ok sum known size win pos => src.pos q' = pos ∧ v = .nilIface ∧ SlM 1 s'.wd 0 (fun _ => undef) wm' ∧ s' = (RS.setSum { s with one := s.one || decide (skipTo dat N N (src.pos q0) ≠ src.pos q0) } s'.scr (some sum)).setHdr known size win s'.wd) := by
  refine (rfh_t src hd hsk q0 rb x s wm wl wc hok hrv hscr hw fb hfb hfn hfv).eqv ?_
  rintro v m ⟨x', scr', q', h1, h2, h3⟩
  simp only at h3
  split at h3
  · rename_i he
    obtain ⟨a1, a2, a3⟩ := h3
    exact ⟨_, a2, x', _, q', wm, h1, h2, rfl, by rw [he]; exact ⟨a1, rfl, rfl, a3⟩⟩
  · rename_i sum pos he
    obtain ⟨a1, a2, a3⟩ := h3
    refine ⟨_, a2, x', _, q', wm, h1, ?_, rfl, ?_⟩
    · intro i; cases sum <;> exact h2 i
    · rw [he]; exact ⟨a1, rfl, by cases sum <;> rfl, a3⟩
  · rename_i sum known size win pos he
    obtain ⟨a1, a2, wd', wm', a3, a4⟩ := h3
    exact ⟨_, a4, x', _, q', wm', h1, h2, rfl, by rw [he]; exact ⟨a1, a2, a3, rfl⟩⟩

/-- A slice of bytes that is handed in. -/
structure DataV (M : Mem) (oa : Option Addr) (N cp : Nat) (dat : Nat → Nat) : Prop where
  le : N ≤ cp
  is : (oa = none ∧ N = 0 ∧ cp = 0) ∨ ∃ b o B, oa = some ⟨b, o, none⟩ ∧ (b, B) ∈ M ∧ (0 < N → o + N ≤ B.n) ∧ ∀ i, i < N → B.g (o + i) = .int .u8 (dat i)

/-- A slice with its block is written so. -/
theorem slmForm {s len : Nat} {v : Value} {cl : Nat → Value} {sm : Mem} (h : SlM s v len cl sm) : ∃ oa cp, v = .slice oa len cp := by
  rcases h with ⟨rfl, rfl, _⟩ | ⟨b, o, cp, B, rfl, _⟩
  · exact ⟨_, _, rfl⟩
  · exact ⟨_, _, rfl⟩
theorem slmCongr {s len : Nat} {v : Value} {cl cl' : Nat → Value} {sm : Mem} (h : SlM s v len cl sm) (hc : ∀ i, i < len * s → cl i = cl' i) : SlM s v len cl' sm := by
  rcases h with h | ⟨b, o, cp, B, h1, h2, h3, h4, h5, h6⟩
  · exact .inl h
  · exact .inr ⟨b, o, cp, B, h1, h2, h3, h4, h5, fun i hi => (h6 i hi).trans (hc i hi)⟩

theorem zNoSeek : taOk Tryd.prog 112 69 = some false := by kernel_rfl

theorem zzHeader_t (S : Sent G) (hd : ∀ i, dat i < 256) (oa : Option Addr) (cp : Nat) (hdv : DataV G oa N cp dat) (hN : N ≤ 2 ^ 31) (fb : Blk) (hfb : (2, fb) ∈ G) (hfn : 0 < fb.n) (hfv : fb.g 0 = .bool false) :
    Trip Tryd.prog G 21 #[.slice oa N cp] [] (fun v m => m = [] ∧
      v = match hdrAt dat N (skipTo dat N N 0) with
        | .ok sum known size win pos => .tuple #[.int .i64 win, .int .i64 ((min size 9223372036854775807 : Nat) : Int), .bool known, .bool sum, .int .i64 pos, .bool true]
        | _ => .tuple #[.int .i64 0, .int .i64 0, .bool false, .bool false, .int .i64 0, .bool false]) := by
  refine Trip_of Tryd.func21 rfl (by show 1 ≤ _; decide) (args := [.slice oa N cp]) fun c h0 hex => ?_
  have hsrc : ∃ src, Src ([] ++ G) (0 + 1) (.slice oa N cp) N src ∧ ∀ i, i < N → src i = .int .u8 (dat i) := by
    rcases hdv.is with ⟨rfl, h2, rfl⟩ | ⟨b, o, B, rfl, h3, h4, h5⟩
    · exact ⟨fun _ => undef, .inr ⟨h2, _, 0, by rw [h2]⟩, fun i hi => by omega⟩
    · by_cases h0 : N = 0
      · exact ⟨fun _ => undef, .inr ⟨h0, _, _, by rw [h0]⟩, fun i hi => by omega⟩
      · have h4 := h4 (by omega)
        exact ⟨fun j => B.g (o + j), .inl ⟨b, o, cp, B, rfl, by simpa using h3, by omega, rfl⟩, h5⟩
  obtain ⟨src, hsrc, hsr⟩ := hsrc
  refine run _ ?_
  refine ro_appendM (s := 0) (src := src) (k := N) (len := 0) (v := .slice none 0 0) (cl := fun _ => undef) (sm := []) (fm := []) rfl rfl rfl rfl z5 (by decide) rfl rfl (.inl ⟨rfl, rfl, rfl⟩) (.refl _) hsrc (fun j hj => by rw [hsr j (by omega)]; rfl) (by omega) hex rfl ?_
  intro v' sm' hsl
  have hsl' : SlM 1 v' N (byteG dat 0) sm' := by
    have h1 : SlM 1 v' (0 + N) _ sm' := hsl
    rw [Nat.zero_add] at h1
    exact slmCongr h1 fun i hi => by simp only [Nat.zero_mul, Nat.not_lt_zero, if_false, Nat.sub_zero]; rw [hsr i (by omega)]; simp only [byteG, Nat.zero_add]
  obtain ⟨oa', cp', rfl⟩ := slmForm hsl'
  clear hsl
  refine runO _ ?_
  refine ro_build1 (vs := [.slice oa' N cp']) rfl rfl z71 rfl rfl rfl rfl ?_
  refine runO _ ?_
  refine ro_box (vs := [.slice oa' N cp']) (by conv => lhs; whnf) rfl rfl hex fun zb hzb => ?_
  refine runO _ ?_
  refine run _ ?_
  refine ro_callT (newReader_t G 69 (.pointer (some ⟨zb, 0, none⟩))) ?_
  rintro v m ⟨rb, rfl, rfl⟩
  refine runO _ ?_
  refine run _ ?_
  refine ro_callT (rfhE_t (zsrc S dat N zb) hd (skip_t _ hd zNoSeek) ⟨0, .slice oa' N cp', sm'⟩ rb 0 (RS.zero.reset (.iface 69 (.pointer (some ⟨zb, 0, none⟩))) (.slice none 0 0)) [] 0 (fun _ => undef) ⟨Nat.zero_le _, hsl'⟩ rfl (fun _ => by show 0 < 256; omega) (.inl ⟨rfl, rfl, rfl⟩) fb hfb hfn hfv) ?_
  rintro v m ⟨x', s', q', wm', h1, h2, rfl, h3⟩
  have hp0 : (zsrc S dat N zb).pos ⟨0, .slice oa' N cp', sm'⟩ = 0 := rfl
  rw [hp0] at h3
  obtain ⟨qp, qv, qsm⟩ := q'
  obtain ⟨hqp, hqs⟩ := h1
  simp only at hqp hqs
  obtain ⟨oa2, cp2, rfl⟩ := slmForm hqs
  cases hr : hdrAt dat N (skipTo dat N N 0) with
  | short =>
    rw [hr] at h3
    simp only at h3
    obtain ⟨_, _, _, he⟩ := h3
    have hv : ∃ tt a, v = .iface tt a := by
      split at he
      · exact ⟨_, _, he⟩
      · obtain ⟨b, rfl⟩ := he; exact ⟨_, _, rfl⟩
    obtain ⟨tt, a, rfl⟩ := hv
    refine runO _ ?_
    refine run _ ?_
    refine J_ret ?_
    exact ends_retS [2, 3, 4, 5, 6, 7] ⟨rfl, rfl⟩
  | bad sum pos =>
    rw [hr] at h3
    simp only at h3
    obtain ⟨_, _, _, b, rfl⟩ := h3
    refine runO _ ?_
    refine run _ ?_
    refine J_ret ?_
    exact ends_retS [2, 3, 4, 5, 6, 7] ⟨rfl, rfl⟩
  | ok sum known size win pos =>
    rw [hr] at h3
    simp only at h3
    obtain ⟨hpos, rfl, _, hs⟩ := h3
    have hpos : qp = pos := hpos
    subst hpos
    refine runO _ ?_
    refine run _ ?_
    refine ro_min rfl rfl rfl ?_
    have er : s'.rem = size := by rw [hs]; rfl
    have ew : s'.wsz = win := by rw [hs]; rfl
    have ek : s'.unk = !known := by rw [hs]; rfl
    have es : s'.sum = sum := by rw [hs]; rfl
    have hmin : (if (9223372036854775807 : Int) < (s'.rem : Int) then (9223372036854775807 : Int) else (s'.rem : Int)) = ((min size 9223372036854775807 : Nat) : Int) := by
      rw [er]; split <;> omega
    have hMb : min size 9223372036854775807 ≤ 9223372036854775807 := Nat.min_le_right _ _
    obtain ⟨Mv, hMv⟩ : ∃ Mv, min size 9223372036854775807 = Mv := ⟨_, rfl⟩
    rw [hmin, hMv]
    rw [hMv] at hMb
    refine runO _ ?_
    refine ro_not rfl rfl ?_
    refine runO _ ?_
    refine run _ ?_
    refine J_ret ?_
    refine ends_retS [2, 3, 4, 5, 6, 7] ⟨rfl, ?_⟩
    have e1 : (N : Int) - ((N - qp : Nat) : Int) = (qp : Int) := by omega
    have e2 : (!s'.unk) = known := by rw [ek]; simp
    show Value.tuple #[.int .i64 s'.wsz, .int .i64 Mv, .bool (!s'.unk), .bool s'.sum, .int .i64 ((N : Int) - ((N - qp : Nat) : Int)), .bool true] = _
    rw [e1, e2, ew, es]
    simp only [hMv]

/-- What the header is, as the package tells it. -/
def headV (dat : Nat → Nat) (N : Nat) : Option (Bool × Bool × Nat × Nat × Nat) := match hdrAt dat N (skipTo dat N N 0) with
  | .ok sum known size win pos => some (sum, known, min size 9223372036854775807, win, pos)
  | _ => none

theorem header_t (S : Sent G) (hd : ∀ i, dat i < 256) (oa : Option Addr) (cp : Nat) (hdv : DataV G oa N cp dat) (hN : N ≤ 2 ^ 31) (fb : Blk) (hfb : (2, fb) ∈ G) (hfn : 0 < fb.n) (hfv : fb.g 0 = .bool false) :
    Trip Tryd.prog G 8 #[.slice oa N cp] [] (fun v m => m = [] ∧
      v = match headV dat N with
        | some (sum, known, size, win, pos) => .tuple #[.agg #[.int .i64 win, .int .i64 size, .bool known, .bool sum, .int .i64 pos], .bool true]
        | none => .tuple #[.agg #[.int .i64 0, .int .i64 0, .bool false, .bool false, .int .i64 0], .bool false]) := by
  refine Trip_of Tryd.func8 rfl (by show 1 ≤ _; decide) (args := [.slice oa N cp]) fun c h0 hex => ?_
  refine run _ ?_
  refine ro_alloc z28 rfl hex fun hb hhb => ?_
  refine runO _ ?_
  refine run _ ?_
  refine ro_callT (zzHeader_t S hd oa cp hdv hN fb hfb hfn hfv) ?_
  rintro v m ⟨rfl, hv⟩
  unfold headV
  cases hr : hdrAt dat N (skipTo dat N N 0) with
  | ok sum known size win pos =>
    rw [hr] at hv
    subst hv
    simp only
    obtain ⟨Mv, hMv⟩ : ∃ Mv, min size 9223372036854775807 = Mv := ⟨_, rfl⟩
    simp only [hMv]
    refine runO _ ?_
    refine run _ ?_
    refine ro_build1 (vs := [.int .i64 win, .int .i64 Mv, .bool known, .bool sum, .int .i64 pos]) rfl rfl z28 rfl rfl rfl rfl ?_
    refine runO _ ?_
    refine ro_storeAgg (s := 4) (vs := [.int .i64 win, .int .i64 Mv, .bool known, .bool sum, .int .i64 pos]) rfl rfl rfl rfl (fun v hv => by simp only [List.mem_cons, List.not_mem_nil, or_false] at hv; rcases hv with rfl | rfl | rfl | rfl | rfl <;> rfl) .here (by decide) rfl hex ?_
    refine runO _ ?_
    refine run _ ?_
    refine J_ret ?_
    exact ends_retC [.cell 2 28, .tmp 3] [.agg #[.int .i64 win, .int .i64 Mv, .bool known, .bool sum, .int .i64 pos], .bool true] ⟨⟨hb, 0, 4, _, rfl, rfl, rfl, List.mem_cons_self, Nat.le_refl 5, rfl⟩, rfl, trivial⟩ ⟨rfl, rfl⟩
  | short =>
    rw [hr] at hv
    subst hv
    simp only
    refine runO _ ?_
    refine run _ ?_
    refine ro_build1 (vs := [.int .i64 0, .int .i64 0, .bool false, .bool false, .int .i64 0]) rfl rfl z28 rfl rfl rfl rfl ?_
    refine runO _ ?_
    refine ro_storeAgg (s := 4) (vs := [.int .i64 0, .int .i64 0, .bool false, .bool false, .int .i64 0]) rfl rfl rfl rfl (fun v hv => by simp only [List.mem_cons, List.not_mem_nil, or_false] at hv; rcases hv with rfl | rfl | rfl | rfl | rfl <;> rfl) .here (by decide) rfl hex ?_
    refine runO _ ?_
    refine run _ ?_
    refine J_ret ?_
    exact ends_retC [.cell 2 28, .tmp 3] [.agg #[.int .i64 0, .int .i64 0, .bool false, .bool false, .int .i64 0], .bool false] ⟨⟨hb, 0, 4, _, rfl, rfl, rfl, List.mem_cons_self, Nat.le_refl 5, rfl⟩, rfl, trivial⟩ ⟨rfl, rfl⟩
  | bad a b =>
    rw [hr] at hv
    subst hv
    simp only
    refine runO _ ?_
    refine run _ ?_
    refine ro_build1 (vs := [.int .i64 0, .int .i64 0, .bool false, .bool false, .int .i64 0]) rfl rfl z28 rfl rfl rfl rfl ?_
    refine runO _ ?_
    refine ro_storeAgg (s := 4) (vs := [.int .i64 0, .int .i64 0, .bool false, .bool false, .int .i64 0]) rfl rfl rfl rfl (fun v hv => by simp only [List.mem_cons, List.not_mem_nil, or_false] at hv; rcases hv with rfl | rfl | rfl | rfl | rfl <;> rfl) .here (by decide) rfl hex ?_
    refine runO _ ?_
    refine run _ ?_
    refine J_ret ?_
    exact ends_retC [.cell 2 28, .tmp 3] [.agg #[.int .i64 0, .int .i64 0, .bool false, .bool false, .int .i64 0], .bool false] ⟨⟨hb, 0, 4, _, rfl, rfl, rfl, List.mem_cons_self, Nat.le_refl 5, rfl⟩, rfl, trivial⟩ ⟨rfl, rfl⟩
end Go.Proofs.YtogmacnlpclgkaaDoor
