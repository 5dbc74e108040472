/-
  WALKS 3: READERS OF BYTES; io.ReadAtLeast, io.ReadFull.
-/
import Derived.Test.YtogmacnlpclgkaaDoorW2
namespace Go.Proofs.YtogmacnlpclgkaaDoor
open Go Go.Eng
attribute [local irreducible] RO J Trip Quiet

/-- The bytes of a text, from a place on. -/
def byteG (dat : Nat → Nat) (p : Nat) : Nat → Value := fun i => .int .u8 (dat (p + i))
def putB (B : Blk) (o n : Nat) (dat : Nat → Nat) (p : Nat) : Blk := ⟨B.n, blit B.g o n (byteG dat p), B.T, B.fr⟩

/-- A reader of a text of N bytes: its states, its blocks, what its method Read does. -/
structure Source {G : Mem} (S : Sent G) (dat : Nat → Nat) (N : Nat) where
  σ : Type
  mem : σ → Mem
  pos : σ → Nat
  ok : σ → Prop
  t : TypeId
  e : TypeId
  rv : Value
  fid : FuncId
  ptr : TyC.tk Tryd.prog t = .ptr e
  mth : mthd Tryd.prog t "Read" = some fid
  go : TyC.go Tryd.prog fid = true
  le : ∀ s, ok s → pos s ≤ N
  rd : ∀ s b o len cap B, ok s → B.fr = (0, 0) → o + len ≤ B.n → len ≤ cap → Trip Tryd.prog G fid #[rv, .slice (some ⟨b, o, none⟩) len cap] ((b, B) :: mem s) (fun v m =>
    ∃ s' k, ok s' ∧ k ≤ len ∧ pos s' = pos s + k ∧ (0 < len → pos s < N → 0 < k) ∧ v = .tuple #[.int .i64 k, if pos s < N then .nilIface else S.eofV] ∧ m = (b, putB B o k dat (pos s)) :: mem s')

variable {G : Mem} {S : Sent G} {dat : Nat → Nat} {N : Nat}

theorem blit_glue (g : Nat → Value) (o k n : Nat) (dat : Nat → Nat) (p : Nat) : blit (blit g o k (byteG dat p)) (o + k) n (byteG dat (p + k)) = blit g o (k + n) (byteG dat p) := by
  funext i
  by_cases h1 : o ≤ i ∧ i < o + k
  · rw [blit_out _ _ _ _ _ (by omega), blit_in _ _ _ _ _ (by omega) (by omega), blit_in _ _ _ _ _ (by omega) (by omega)]
  · by_cases h2 : o + k ≤ i ∧ i < o + k + n
    · rw [blit_in _ _ _ _ _ (by omega) (by omega), blit_in _ _ _ _ _ (by omega) (by omega)]
      simp only [byteG]; congr 3; omega
    · rw [blit_out _ _ _ _ _ (by omega), blit_out _ _ _ _ _ (by omega), blit_out _ _ _ _ _ (by omega)]

/-- What ReadFull says of k bytes out of len. -/
def fullV (S : Sent G) (len k : Nat) : Value := .tuple #[.int .i64 k, if len ≤ k then .nilIface else if k = 0 then S.eofV else S.ueofV]
theorem fullV_ok {S : Sent G} {len k : Nat} (h : len ≤ k) : fullV S len k = .tuple #[.int .i64 k, .nilIface] := by unfold fullV; rw [if_pos h]
theorem fullV_eof {S : Sent G} {len k : Nat} (h : ¬ len ≤ k) (h0 : k = 0) : fullV S len k = .tuple #[.int .i64 k, .iface 122 (.pointer (some ⟨S.eb, S.eo, none⟩))] := by unfold fullV; rw [if_neg h, if_pos h0]; rfl
theorem fullV_ueof {S : Sent G} {len k : Nat} (h : ¬ len ≤ k) (h0 : ¬ k = 0) : fullV S len k = .tuple #[.int .i64 k, .iface 122 (.pointer (some ⟨S.ub, S.uo, none⟩))] := by unfold fullV; rw [if_neg h, if_neg h0]; rfl

theorem _root_.Go.Eng.MEqv.appNil (m : Mem) : MEqv (m ++ []) m := by simpa using MEqv.refl m

theorem atLeast_t (src : Source S dat N) (s0 : src.σ) (b o len cap : Nat) (B : Blk) (hok : src.ok s0) (hfr : B.fr = (0, 0)) (ho : o + len ≤ B.n) (hc : len ≤ cap) (hl : len < 2 ^ 62) :
    Trip Tryd.prog G 47 #[.iface src.t src.rv, .slice (some ⟨b, o, none⟩) len cap, .int .i64 len] ((b, B) :: src.mem s0) (fun v m =>
      ∃ s' k, src.ok s' ∧ k = min len (N - src.pos s0) ∧ src.pos s' = src.pos s0 + k ∧ m = (b, putB B o k dat (src.pos s0)) :: src.mem s' ∧
        v = fullV S len k) := by
  refine Trip_of Tryd.func47 rfl (by show 3 ≤ _; decide) (args := [.iface src.t src.rv, .slice (some ⟨b, o, none⟩) len cap, .int .i64 len]) fun c h0 hex => ?_
  refine run _ ?_
  refine J_condP rfl (fun hlt => absurd hlt (by omega)) (fun _ => ?_)
  refine run _ ?_
  refine J_loopS (σ := src.σ × Nat × Bool) (fun s => [(0, .iface src.t src.rv), (1, .slice (some ⟨b, o, none⟩) len cap), (2, .int .i64 len), (6, .int .i64 s.2.1), (7, if s.2.2 then S.eofV else .nilIface)])
    (fun s => (b, putB B o s.2.1 dat (src.pos s0)) :: src.mem s.1)
    (fun s => src.ok s.1 ∧ s.2.1 ≤ len ∧ src.pos s.1 = src.pos s0 + s.2.1 ∧ (s.2.2 = true → src.pos s.1 = N ∧ s.2.1 < len)) (fun s => 2 * (len - s.2.1) + (if s.2.2 then 0 else 1)) (s0, 0, false)
    ⟨rfl, rfl, rfl, rfl, rfl, trivial⟩ (MEqv.cons (by unfold putB; rw [blit_zero]) (.refl _)) ⟨hok, Nat.zero_le _, rfl, fun h => by cases h⟩ ?_
  rintro ⟨s, k, fl⟩ f ⟨i1, i2, i3, i4⟩
  simp only at i1 i2 i3 i4
  have lim := src.le s i1
  refine run _ ?_
  refine ro_splitP 17 rfl (fun hlt => ?_) (fun hge => ?_)
  · cases fl with
    | true =>
      refine runO _ ?_
      refine run _ ?_
      have h4 := i4 rfl
      refine J_condP rfl (fun hg => absurd hg (by simp; omega)) (fun _ => ?_)
      refine run _ ?_
      refine ro_splitP 40 rfl (fun h0 => ?_) (fun h0 => ?_)
      · refine runO _ ?_
        refine ro_loadA rfl rfl (by simp [S.e0]) S.e0n S.e0g rfl ?_
        refine runO _ ?_
        obtain ⟨i, hi, hcmp⟩ := ptrInfo
        refine ro_eqPtrs (r := true) (B := S.E1) (B' := S.E1) rfl rfl rfl rfl hi hcmp rfl (.inl ⟨rfl, by simp⟩) rfl ?_
        refine runO _ ?_
        refine run _ ?_
        refine ro_loadA rfl rfl (by simp [S.u0]) S.u0n S.u0g rfl ?_
        refine runO _ ?_
        refine run _ ?_
        refine J_ret ?_
        have hk0 : 0 < k := by simpa using h0
        exact ends_retS [6, 7] ⟨s, k, i1, by omega, i3, rfl, (fullV_ueof (by omega) (by omega)).symm⟩
      · refine runO _ ?_
        refine run _ ?_
        refine J_ret ?_
        have hk0 : k = 0 := by simp at h0; omega
        subst hk0
        exact ends_retS [6, 7] ⟨s, 0, i1, by omega, i3, rfl, (fullV_eof (by omega) rfl).symm⟩
    | false =>
      have hlt' : k < len := by simpa using hlt
      refine runO _ ?_
      refine run _ ?_
      refine ro_sl k len rfl rfl rfl rfl rfl (by omega) (by omega) (by omega) rfl ?_
      refine runO _ ?_
      refine ro_nilCheckM src.mth rfl src.ptr rfl ?_
      refine runO _ ?_
      refine ro_callI src.mth src.ptr src.go (src.rd s b (o + k) (len - k) (cap - k) (putB B o k dat (src.pos s0)) i1 hfr (by show _ ≤ B.n; omega) (by omega)) ?_
      rintro v m ⟨s', k', j1, j2, j3, j4, rfl, rfl⟩
      have lim' := src.le s' j1
      by_cases hp : src.pos s < N
      · rw [if_pos hp]
        refine runO _ ?_
        refine run _ ?_
        have hcp := j4 (by omega) hp
        refine ⟨(s', k + k', false), ?_, ⟨j1, ?_, ?_, fun h => by cases h⟩, ⟨rfl, rfl, rfl, rfl, rfl, trivial⟩, ?_⟩
        · simp only; omega
        · simp only; omega
        · simp only; omega
        · refine MEqv.cons ?_ (MEqv.appNil _)
          simp only [putB, i3, blit_glue]
      · rw [if_neg hp]
        refine runO _ ?_
        refine run _ ?_
        have h0c : k' = 0 := by omega
        refine ⟨(s', k + k', true), ?_, ⟨j1, ?_, ?_, fun _ => ⟨?_, ?_⟩⟩, ⟨rfl, rfl, rfl, rfl, rfl, trivial⟩, ?_⟩
        · simp only [h0c]; simp
        · simp only; omega
        · simp only; omega
        · simp only; omega
        · simp only; omega
        · refine MEqv.cons ?_ (MEqv.appNil _)
          simp only [putB, i3, blit_glue]
  · refine runO _ ?_
    refine run _ ?_
    refine J_condP rfl (fun hg => ?_) (fun hl => absurd hge (by simp at hl ⊢; omega))
    have hkl : k = len := by simp at hg; omega
    subst hkl
    refine run _ ?_
    refine J_ret ?_
    exact ends_retS [6, 7] ⟨s, k, i1, by omega, i3, rfl, (fullV_ok (Nat.le_refl _)).symm⟩

theorem full_t (src : Source S dat N) (s0 : src.σ) (b o len cap : Nat) (B : Blk) (hok : src.ok s0) (hfr : B.fr = (0, 0)) (ho : o + len ≤ B.n) (hc : len ≤ cap) (hl : len < 2 ^ 62) :
    Trip Tryd.prog G 36 #[.iface src.t src.rv, .slice (some ⟨b, o, none⟩) len cap] ((b, B) :: src.mem s0) (fun v m =>
      ∃ s' k, src.ok s' ∧ k = min len (N - src.pos s0) ∧ src.pos s' = src.pos s0 + k ∧ m = (b, putB B o k dat (src.pos s0)) :: src.mem s' ∧
        v = fullV S len k) := by
  refine Trip_of Tryd.func36 rfl (by show 2 ≤ _; decide) (args := [.iface src.t src.rv, .slice (some ⟨b, o, none⟩) len cap]) fun c h0 hex => ?_
  refine run _ ?_
  refine ro_callT (atLeast_t src s0 b o len cap B hok hfr ho hc hl) ?_
  rintro v m ⟨s', k, h1, h2, h3, rfl, rfl⟩
  by_cases h4 : len ≤ k
  · rw [fullV_ok h4]
    refine runO _ ?_
    refine run _ ?_
    refine J_ret ?_
    exact ends_retS [4, 5] ⟨s', k, h1, h2, h3, rfl, (fullV_ok h4).symm⟩
  · by_cases h5 : k = 0
    · rw [fullV_eof h4 h5]
      refine runO _ ?_
      refine run _ ?_
      refine J_ret ?_
      exact ends_retS [4, 5] ⟨s', k, h1, h2, h3, rfl, (fullV_eof h4 h5).symm⟩
    · rw [fullV_ueof h4 h5]
      refine runO _ ?_
      refine run _ ?_
      refine J_ret ?_
      exact ends_retS [4, 5] ⟨s', k, h1, h2, h3, rfl, (fullV_ueof h4 h5).symm⟩
end Go.Proofs.YtogmacnlpclgkaaDoor
