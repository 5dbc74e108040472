/-
  WALKS 5: zzBytes; discard; skipFrame.
-/
import Derived.Test.YtogmacnlpclgkaaDoorW4
namespace Go.Proofs.YtogmacnlpclgkaaDoor
open Go Go.Eng
attribute [local irreducible] RO J Trip Quiet

structure ZSt where
  pos : Nat
  v : Value
  sm : Mem

theorem zread_t {G : Mem} (S : Sent G) (dat : Nat → Nat) (N zb : Nat) (p : Nat) (zv : Value) (sm : Mem) (hs : SlM 1 zv (N - p) (byteG dat p) sm) (hp : p ≤ N) (b o len cap : Nat) (B : Blk) (hfr : B.fr = (0, 0)) (ho : o + len ≤ B.n) (_hc : len ≤ cap) :
    Trip Tryd.prog G 115 #[.pointer (some ⟨zb, 0, none⟩), .slice (some ⟨b, o, none⟩) len cap] ((b, B) :: (zb, listB [zv] 71) :: sm) (fun v m =>
      ∃ zv' k, SlM 1 zv' (N - (p + k)) (byteG dat (p + k)) sm ∧ k = min len (N - p) ∧ v = .tuple #[.int .i64 k, if p < N then .nilIface else S.eofV] ∧
        m = (b, putB B o k dat p) :: (zb, listB [zv'] 71) :: sm) := by
  refine Trip_of Tryd.func115 rfl (by show 2 ≤ _; decide) (args := [.pointer (some ⟨zb, 0, none⟩), .slice (some ⟨b, o, none⟩) len cap]) fun c h0 hex => ?_
  rcases hs with ⟨rfl, h0', rfl⟩ | ⟨d, od, cd, D, rfl, rfl, hf, hod, hlc, hcl⟩
  · refine run _ ?_
    refine ro_loadA rfl rfl (by simp [S.e0]) S.e0n S.e0g rfl ?_
    refine runO _ ?_
    refine run _ ?_
    refine J_ret ?_
    refine ends_retS [4, 5] ⟨.slice none 0 0, 0, .inl ⟨rfl, by omega, rfl⟩, by omega, by rw [if_neg (by omega)]; rfl, rfl⟩ rfl (.cons (by unfold putB; rw [blit_zero]) (.refl _))
  · refine run _ ?_
    refine J_condP rfl (fun h => ?_) (fun h => ?_)
    · have h0' : N - p = 0 := by omega
      refine run _ ?_
      refine ro_loadA rfl rfl (by simp [S.e0]) S.e0n S.e0g rfl ?_
      refine runO _ ?_
      refine run _ ?_
      refine J_ret ?_
      refine ends_retS [4, 5] ⟨.slice (some ⟨d, od, none⟩) (N - p) cd, 0, .inr ⟨d, od, cd, D, by simp, rfl, hf, hod, by omega, fun i hi => by omega⟩, by omega, by rw [if_neg (by omega)]; rfl, rfl⟩ rfl (.cons (by unfold putB; rw [blit_zero]) (.refl _))
    · have h0' : 0 < N - p := by omega
      refine run _ ?_
      have hmn : min (N - p) len ≤ N - p := Nat.min_le_left _ _
      have hml : min (N - p) len ≤ len := Nat.min_le_right _ _
      have hmm : min (N - p) len = min len (N - p) := Nat.min_comm _ _
      refine ro_copy (s := 0) (k := N - p) (src := fun j => D.g (od + j)) rfl rfl rfl rfl (.inl ⟨d, od, cd, D, rfl, by simp, by omega, rfl⟩) (fun j hj => by show one1 (D.g (od + j)) = true; rw [hcl j (by omega)]; rfl) .here hfr (by omega) hex rfl ?_
      refine runO _ ?_
      refine run _ ?_
      refine ro_slice (s := 0) (l := (min (N - p) len : Nat)) (h := ((N - p : Nat) : Int)) rfl rfl rfl rfl rfl (by omega) (by omega) (by omega) rfl ?_
      refine runO _ ?_
      refine run _ ?_
      refine J_ret ?_
      have hoff : min (N - p) len < N - p → sOff od (min (N - p) len : Nat) (0 + 1) cd = od + min (N - p) len := fun hl => by unfold sOff; rw [if_neg (by omega)]; omega
      have hbnd : sOff od (min (N - p) len : Nat) (0 + 1) cd + (cd - min (N - p) len) * 1 ≤ D.n := by unfold sOff; split <;> omega
      refine ends_retS [4, 5] ⟨.slice (some ⟨d, sOff od (min (N - p) len : Nat) (0 + 1) cd, none⟩) (N - p - min (N - p) len) (cd - min (N - p) len), min (N - p) len,
        .inr ⟨d, _, _, D, by rw [Nat.sub_add_eq], rfl, hf, hbnd, by omega, fun i hi => ?_⟩, hmm, by rw [if_pos (by omega)]; rfl, rfl⟩ rfl (.cons (obj_congr fun i _ => ?_) (.refl _))
      · rw [hoff (by omega), Nat.add_assoc, hcl _ (by omega)]
        simp only [byteG, Nat.add_assoc]
      · show blit B.g o (min (N - p) len * (0 + 1)) (fun j => D.g (od + j)) i = blit B.g o (min (N - p) len) (byteG dat p) i
        rw [show min (N - p) len * (0 + 1) = min (N - p) len by omega]
        by_cases hi : o ≤ i ∧ i < o + min (N - p) len
        · rw [blit_in _ _ _ _ _ hi.1 hi.2, blit_in _ _ _ _ _ hi.1 hi.2, hcl _ (by omega)]
        · rw [blit_out _ _ _ _ _ (by omega), blit_out _ _ _ _ _ (by omega)]

theorem zmth : mthd Tryd.prog 69 "Read" = some 115 := by kernel_rfl

/-- zzBytes as a reader. -/
def zsrc {G : Mem} (S : Sent G) (dat : Nat → Nat) (N zb : Nat) : Source S dat N where
  σ := ZSt
  mem s := (zb, listB [s.v] 71) :: s.sm
  pos s := s.pos
  ok s := s.pos ≤ N ∧ SlM 1 s.v (N - s.pos) (byteG dat s.pos) s.sm
  t := 69
  e := 71
  rv := .pointer (some ⟨zb, 0, none⟩)
  fid := 115
  ptr := rfl
  mth := zmth
  go := rfl
  le s h := h.1
  rd := by
    intro s b o len cap B hok hfr ho hc
    refine (zread_t S dat N zb s.pos s.v s.sm hok.2 hok.1 b o len cap B hfr ho hc).mono ?_
    rintro v m ⟨zv', k, h1, h2, h3, h4⟩
    have := hok.1
    exact ⟨⟨s.pos + k, zv', s.sm⟩, k, ⟨by simp only; omega, h1⟩, by omega, rfl, fun h5 h6 => by omega, h3, h4⟩

theorem zBig : zeroL Tryd.prog 121 = some (List.replicate 512 (.int .u8 0)) := by kernel_rfl

theorem zBigE : ∃ zs, zeroL Tryd.prog 121 = some zs ∧ zs.length = 512 := ⟨_, zBig, List.length_replicate⟩

theorem discard_t {G : Mem} {S : Sent G} {dat : Nat → Nat} {N : Nat} (src : Source S dat N) (s0 : src.σ) (hok : src.ok s0) (n : Nat) (hn : n < 2 ^ 40) :
    Trip Tryd.prog G 49 #[.iface src.t src.rv, .int .i64 n] (src.mem s0) (fun v m =>
      ∃ s' k, src.ok s' ∧ k = min n (N - src.pos s0) ∧ src.pos s' = src.pos s0 + k ∧ m = src.mem s' ∧
        v = .tuple #[.int .i64 k, if n ≤ k then .nilIface else S.eofV]) := by
  refine Trip_of Tryd.func49 rfl (by show 2 ≤ _; decide) (args := [.iface src.t src.rv, .int .i64 n]) fun c h0 hex => ?_
  refine run _ ?_
  obtain ⟨zs, hz, hzl⟩ := zBigE
  refine ro_alloc hz rfl hex fun bb hbb => ?_
  refine runO _ ?_
  refine run _ ?_
  refine J_loopS (σ := src.σ × Nat × Blk) (fun s => [(0, .iface src.t src.rv), (1, .int .i64 n), (6, .pointer (some ⟨bb, 0, none⟩)), (7, .int .i64 s.2.1)])
    (fun s => (bb, s.2.2) :: src.mem s.1)
    (fun s => src.ok s.1 ∧ s.2.1 ≤ n ∧ src.pos s.1 = src.pos s0 + s.2.1 ∧ s.2.2.n = 512 ∧ s.2.2.fr = (0, 0)) (fun s => n - s.2.1) (s0, 0, _)
    ⟨rfl, rfl, rfl, rfl, trivial⟩ (.refl _) ⟨hok, Nat.zero_le _, rfl, hzl, rfl⟩ ?_
  rintro ⟨s, k, B⟩ f ⟨i1, i2, i3, i4, i5⟩
  simp only at i1 i2 i3 i4 i5
  have lim := src.le s i1
  refine run _ ?_
  refine J_condP rfl (fun hlt => ?_) (fun hge => ?_)
  · have hlt : k < n := by simpa using hlt
    refine run _ ?_
    refine ro_min rfl rfl rfl ?_
    obtain ⟨q, hq, hq0, hq1, hq2⟩ : ∃ q : Nat, (if (512 : Int) < (n : Int) - (k : Int) then (512 : Int) else (n : Int) - (k : Int)) = (q : Int) ∧ 0 < q ∧ q ≤ 512 ∧ q ≤ n - k := by
      by_cases h : (512 : Int) < (n : Int) - (k : Int)
      · exact ⟨512, by rw [if_pos h]; rfl, by omega, by omega, by omega⟩
      · exact ⟨n - k, by rw [if_neg h]; omega, by omega, by omega, by omega⟩
    simp only [hq]
    refine runO _ ?_
    refine ro_arrTo q rfl rfl rfl rfl hq1 rfl ?_
    refine runO _ ?_
    refine ro_nilCheckM src.mth rfl src.ptr rfl ?_
    refine runO _ ?_
    refine ro_callI src.mth src.ptr src.go (src.rd s bb 0 q 512 B i1 i5 (by omega) hq1) ?_
    rintro v m ⟨s', k', j1, j2, j3, j4, rfl, rfl⟩
    have lim' := src.le s' j1
    by_cases hp : src.pos s < N
    · have hk' := j4 hq0 hp
      rw [if_pos hp]
      refine runO _ ?_
      refine run _ ?_
      refine J_condP rfl (fun hend => ?_) (fun hgo => ?_)
      · refine run _ ?_
        refine J_ret ?_
        have hkn : n ≤ k + k' := by omega
        exact ends_retS [4, 5] ⟨s', k + k', j1, by omega, by omega, rfl, by rw [if_pos hkn]; rfl⟩
      · refine run _ ?_
        exact ⟨(s', k + k', putB B 0 k' dat (src.pos s)), by simp only; omega, ⟨j1, by simp only; omega, by simp only; omega, i4, i5⟩, ⟨rfl, rfl, rfl, rfl, trivial⟩, MEqv.appNil _⟩
    · have hk' : k' = 0 := by omega
      subst hk'
      rw [if_neg hp]
      refine runO _ ?_
      refine run _ ?_
      refine J_condP rfl (fun hend => absurd hend (by omega)) (fun hgo => ?_)
      refine run _ ?_
      refine J_ret ?_
      have hkn : ¬ n ≤ k := by omega
      exact ends_retS [4, 5] ⟨s', k, j1, by omega, by omega, rfl, by rw [if_neg hkn]; rfl⟩
  · have hkn : n ≤ k := by simp at hge; omega
    refine run _ ?_
    refine J_ret ?_
    exact ends_retS [4, 5] ⟨s, k, i1, by omega, by omega, rfl, by rw [if_pos hkn]; rfl⟩
end Go.Proofs.YtogmacnlpclgkaaDoor
