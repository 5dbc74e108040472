/-
  TEXTS MERGED: EngS, W2, W3, W4, W5, W6.
-/
import Derived.Test.YtogmacnlpclgkaaDoorK12
import Derived.Test.YtogmacnlpclgkaaDoorK11
/-! ENGINE S: short words for blocks in another order. -/
namespace Go.Eng
open Go

open Classical in
theorem permA {a b : Mem} (h : ∀ x, a.count x = b.count x := by
    intro x
    first | (simp only [List.count_append, List.count_cons, List.count_nil]; omega) | (simp only [List.append_eq, List.count_append, List.count_cons, List.count_nil]; omega)) : a.Perm b := List.perm_iff_count.2 h
theorem selA {m m' : Mem} (h : MEqv m m' := by first | exact MEqv.refl _ | (apply SelE.eqv; repeat (first | exact .nil | exact .all | exact .allN | exact .pref | exact .suf | (apply SelE.cons; (first | exact .here (by first | with_reducible rfl | exact blk_tab rfl rfl rfl rfl | exact rfl) | exact .there (.here (by first | with_reducible rfl | exact blk_tab rfl rfl rfl rfl | exact rfl)) | exact .there (.there (.here (by first | with_reducible rfl | exact blk_tab rfl rfl rfl rfl | exact rfl))) | exact .there (.there (.there (.here (by first | with_reducible rfl | exact blk_tab rfl rfl rfl rfl | exact rfl)))) | exact .there (.there (.there (.there (.here (by first | with_reducible rfl | exact blk_tab rfl rfl rfl rfl | exact rfl))))) | exact .there (.there (.there (.there (.there (.here (by first | with_reducible rfl | exact blk_tab rfl rfl rfl rfl | exact rfl)))))) | exact .there (.there (.there (.there (.there (.there (.here (by first | with_reducible rfl | exact blk_tab rfl rfl rfl rfl | exact rfl))))))) | exact .there (.there (.there (.there (.there (.there (.there (.here (by first | with_reducible rfl | exact blk_tab rfl rfl rfl rfl | exact rfl)))))))) | exact .there (.there (.there (.there (.there (.there (.there (.there (.here (by first | with_reducible rfl | exact blk_tab rfl rfl rfl rfl | exact rfl))))))))))) | apply SelE.skip))) : MEqv m m' := h
end Go.Eng

/-! WALKS 2: NUMBERS OUT OF BYTES. -/
namespace Go.Proofs.YtogmacnlpclgkaaDoor
open Go Go.Eng
attribute [local irreducible] RO J Trip Quiet

/-- A text: so many bytes from a place of a block on. -/
structure Text (M : Mem) (b o len : Nat) (x : Nat → Nat) (B : Blk) : Prop where
  mem : (b, B) ∈ M
  fits : o + len ≤ B.n
  get : ∀ i, i < len → B.g (o + i) = .int .u8 (x i)
  byte : ∀ i, x i < 256

def le2 (x : Nat → Nat) : Nat := x 0 + x 1 * 256
def le4 (x : Nat → Nat) : Nat := x 0 + x 1 * 256 + x 2 * 65536 + x 3 * 16777216
def le8 (x : Nat → Nat) : Nat := le4 x + le4 (fun i => x (i + 4)) * 4294967296

theorem le32_q (G m : Mem) (b o len cap : Nat) (B : Blk) (x : Nat → Nat) (hx : Text (m ++ G) b o 4 x B) (h4 : 4 ≤ len) :
    Quiet Tryd.prog G 38 #[.slice (some ⟨b, o, none⟩) len cap] m (.int .u32 (le4 x)) := by
  refine Quiet_of Tryd.func38 rfl (by show 1 ≤ _; decide) (args := [.slice (some ⟨b, o, none⟩) len cap]) fun c h0 => ?_
  have b0 := hx.byte 0; have b1 := hx.byte 1; have b2 := hx.byte 2; have b3 := hx.byte 3
  have hf := hx.fits
  refine run _ ?_
  refine ro_loadA rfl rfl (by simpa using hx.mem) (by omega) (hx.get 0 (by omega)) rfl ?_
  refine runO _ ?_
  refine ro_loadA rfl rfl (by simpa using hx.mem) (by omega) (hx.get 1 (by omega)) rfl ?_
  refine runO _ ?_
  refine ro_orA 8 rfl rfl (by omega) (by omega) (by omega) (by omega) rfl (by show _ < (2:Int)^32; omega) rfl ?_
  refine runO _ ?_
  refine ro_loadA rfl rfl (by simpa using hx.mem) (by omega) (hx.get 2 (by omega)) rfl ?_
  refine runO _ ?_
  refine ro_orA 16 rfl rfl (by omega) (by omega) (by omega) (by omega) rfl (by show _ < (2:Int)^32; omega) rfl ?_
  refine runO _ ?_
  refine ro_loadA rfl rfl (by simpa using hx.mem) (by omega) (hx.get 3 (by omega)) rfl ?_
  refine runO _ ?_
  refine ro_orA 24 rfl rfl (by omega) (by omega) (by omega) (by omega) rfl (by show _ < (2:Int)^32; omega) rfl ?_
  refine runO _ ?_
  refine run _ ?_
  refine J_ret ?_
  exact ends_ret [2] rfl (post := []) (junk := []) (.refl _) (by simp [retV, le4]; rfl)

theorem le16_q (G m : Mem) (b o len cap : Nat) (B : Blk) (x : Nat → Nat) (hx : Text (m ++ G) b o 2 x B) (h4 : 2 ≤ len) :
    Quiet Tryd.prog G 43 #[.slice (some ⟨b, o, none⟩) len cap] m (.int .u16 (le2 x)) := by
  refine Quiet_of Tryd.func43 rfl (by show 1 ≤ _; decide) (args := [.slice (some ⟨b, o, none⟩) len cap]) fun c h0 => ?_
  have b0 := hx.byte 0; have b1 := hx.byte 1
  have hf := hx.fits
  refine run _ ?_
  refine ro_loadA rfl rfl (by simpa using hx.mem) (by omega) (hx.get 0 (by omega)) rfl ?_
  refine runO _ ?_
  refine ro_loadA rfl rfl (by simpa using hx.mem) (by omega) (hx.get 1 (by omega)) rfl ?_
  refine runO _ ?_
  refine ro_orA 8 rfl rfl (by omega) (by omega) (by omega) (by omega) rfl (by show _ < (2:Int)^16; omega) rfl ?_
  refine runO _ ?_
  refine run _ ?_
  refine J_ret ?_
  exact ends_ret [2] rfl (post := []) (junk := []) (.refl _) (by simp [retV, le2]; rfl)

theorem le4_lt (x : Nat → Nat) (h : ∀ i, x i < 256) : le4 x < 4294967296 := by
  have b0 := h 0; have b1 := h 1; have b2 := h 2; have b3 := h 3
  unfold le4; omega

theorem le64_q (G m : Mem) (b o len cap : Nat) (B : Blk) (x : Nat → Nat) (hx : Text (m ++ G) b o 8 x B) (h4 : 8 ≤ len) (hc : len ≤ cap) :
    Quiet Tryd.prog G 44 #[.slice (some ⟨b, o, none⟩) len cap] m (.int .u64 (le8 x)) := by
  refine Quiet_of Tryd.func44 rfl (by show 1 ≤ _; decide) (args := [.slice (some ⟨b, o, none⟩) len cap]) fun c h0 => ?_
  have l0 := le4_lt x hx.byte
  have l1 := le4_lt (fun i => x (i + 4)) (fun i => hx.byte _)
  have hf := hx.fits
  refine run _ ?_
  refine ro_callQT (le32_q (m ++ G) [] b o len cap B x ⟨by simpa using hx.mem, by omega, fun i hi => hx.get i (by omega), hx.byte⟩ (by omega)) ?_
  refine runO _ ?_
  refine ro_slice rfl rfl rfl rfl rfl (by omega) (by omega) (by omega) rfl ?_
  refine runO _ ?_
  have e1 : sOff o (4 : Int).toNat (0 + 1) cap = o + 4 := by simp [sOff]; omega
  refine ro_callQT (vs := [.slice (some ⟨b, sOff o (4 : Int).toNat (0 + 1) cap, none⟩) ((len : Int).toNat - (4 : Int).toNat) (cap - (4 : Int).toNat)]) (by rw [e1]; exact le32_q (m ++ G) [] b (o + 4) _ _ B (fun i => x (i + 4)) ⟨by simpa using hx.mem, by omega, fun i hi => by rw [Nat.add_assoc, Nat.add_comm 4 i]; exact hx.get (i + 4) (by omega), fun i => hx.byte _⟩ (by simp; omega)) ?_
  refine runO _ ?_
  refine ro_orA 32 rfl rfl (by omega) (by omega) (by omega) (by omega) rfl (by show _ < (2:Int)^64; omega) rfl ?_
  refine runO _ ?_
  refine run _ ?_
  refine J_ret ?_
  exact ends_ret [2] rfl (post := []) (junk := []) (.refl _) (by simp [retV, le8]; rfl)
end Go.Proofs.YtogmacnlpclgkaaDoor

/-! WALKS 3: READERS OF BYTES; io.ReadAtLeast, io.ReadFull. -/
namespace Go.Proofs.YtogmacnlpclgkaaDoor
open Go Go.Eng
attribute [local irreducible] RO J Trip Quiet

/-- The bytes of a text, from a place on. -/
def byteG (dat : Nat → Nat) (p : Nat) : Nat → Value := fun i => .int .u8 (dat (p + i))
def putB (B : Blk) (o n : Nat) (dat : Nat → Nat) (p : Nat) : Blk := ⟨B.n, blit B.g o n (byteG dat p), B.T, B.fr⟩

/-- A reader of a text of N bytes: its states, its blocks, what its method Read does. -/
structure Source {G : Mem} (S : Sent G) (dat : Nat → Nat) (N : Nat) where
  σ : Type
  mem : σ → Mem
  pos : σ → Nat
  ok : σ → Prop
  t : TypeId
  e : TypeId
  rv : Value
  fid : FuncId
  ptr : TyC.tk Tryd.prog t = .ptr e
  mth : mthd Tryd.prog t "Read" = some fid
  go : TyC.go Tryd.prog fid = true
  le : ∀ s, ok s → pos s ≤ N
  rd : ∀ s b o len cap B, ok s → B.fr = (0, 0) → o + len ≤ B.n → len ≤ cap → Trip Tryd.prog G fid #[rv, .slice (some ⟨b, o, none⟩) len cap] ((b, B) :: mem s) (fun v m =>
    ∃ s' k, ok s' ∧ k ≤ len ∧ pos s' = pos s + k ∧ (0 < len → pos s < N → 0 < k) ∧ v = .tuple #[.int .i64 k, if pos s < N then .nilIface else S.eofV] ∧ m = (b, putB B o k dat (pos s)) :: mem s')

variable {G : Mem} {S : Sent G} {dat : Nat → Nat} {N : Nat}

theorem blit_glue (g : Nat → Value) (o k n : Nat) (dat : Nat → Nat) (p : Nat) : blit (blit g o k (byteG dat p)) (o + k) n (byteG dat (p + k)) = blit g o (k + n) (byteG dat p) := by
  funext i
  by_cases h1 : o ≤ i ∧ i < o + k
  · rw [blit_out _ _ _ _ _ (by omega), blit_in _ _ _ _ _ (by omega) (by omega), blit_in _ _ _ _ _ (by omega) (by omega)]
  · by_cases h2 : o + k ≤ i ∧ i < o + k + n
    · rw [blit_in _ _ _ _ _ (by omega) (by omega), blit_in _ _ _ _ _ (by omega) (by omega)]
      simp only [byteG]; congr 3; omega
    · rw [blit_out _ _ _ _ _ (by omega), blit_out _ _ _ _ _ (by omega), blit_out _ _ _ _ _ (by omega)]

/-- What ReadFull says of k bytes out of len. -/
def fullV (S : Sent G) (len k : Nat) : Value := .tuple #[.int .i64 k, if len ≤ k then .nilIface else if k = 0 then S.eofV else S.ueofV]
theorem fullV_ok {S : Sent G} {len k : Nat} (h : len ≤ k) : fullV S len k = .tuple #[.int .i64 k, .nilIface] := by unfold fullV; rw [if_pos h]
theorem fullV_eof {S : Sent G} {len k : Nat} (h : ¬ len ≤ k) (h0 : k = 0) : fullV S len k = .tuple #[.int .i64 k, .iface 122 (.pointer (some ⟨S.eb, S.eo, none⟩))] := by unfold fullV; rw [if_neg h, if_pos h0]; rfl
theorem fullV_ueof {S : Sent G} {len k : Nat} (h : ¬ len ≤ k) (h0 : ¬ k = 0) : fullV S len k = .tuple #[.int .i64 k, .iface 122 (.pointer (some ⟨S.ub, S.uo, none⟩))] := by unfold fullV; rw [if_neg h, if_neg h0]; rfl

theorem _root_.Go.Eng.MEqv.appNil (m : Mem) : MEqv (m ++ []) m := by simpa using MEqv.refl m

theorem atLeast_t (src : Source S dat N) (s0 : src.σ) (b o len cap : Nat) (B : Blk) (hok : src.ok s0) (hfr : B.fr = (0, 0)) (ho : o + len ≤ B.n) (hc : len ≤ cap) (hl : len < 2 ^ 62) :
    Trip Tryd.prog G 47 #[.iface src.t src.rv, .slice (some ⟨b, o, none⟩) len cap, .int .i64 len] ((b, B) :: src.mem s0) (fun v m =>
      ∃ s' k, src.ok s' ∧ k = min len (N - src.pos s0) ∧ src.pos s' = src.pos s0 + k ∧ m = (b, putB B o k dat (src.pos s0)) :: src.mem s' ∧
        v = fullV S len k) := by
  refine Trip_of Tryd.func47 rfl (by show 3 ≤ _; decide) (args := [.iface src.t src.rv, .slice (some ⟨b, o, none⟩) len cap, .int .i64 len]) fun c h0 hex => ?_
  refine run _ ?_
  refine J_condP rfl (fun hlt => absurd hlt (by omega)) (fun _ => ?_)
  refine run _ ?_
  refine J_loopS (σ := src.σ × Nat × Bool) (fun s => [(0, .iface src.t src.rv), (1, .slice (some ⟨b, o, none⟩) len cap), (2, .int .i64 len), (6, .int .i64 s.2.1), (7, if s.2.2 then S.eofV else .nilIface)])
    (fun s => (b, putB B o s.2.1 dat (src.pos s0)) :: src.mem s.1)
    (fun s => src.ok s.1 ∧ s.2.1 ≤ len ∧ src.pos s.1 = src.pos s0 + s.2.1 ∧ (s.2.2 = true → src.pos s.1 = N ∧ s.2.1 < len)) (fun s => 2 * (len - s.2.1) + (if s.2.2 then 0 else 1)) (s0, 0, false)
    ⟨rfl, rfl, rfl, rfl, rfl, trivial⟩ (MEqv.cons (by unfold putB; rw [blit_zero]) (.refl _)) ⟨hok, Nat.zero_le _, rfl, fun h => by cases h⟩ ?_
  rintro ⟨s, k, fl⟩ f ⟨i1, i2, i3, i4⟩
  simp only at i1 i2 i3 i4
  have lim := src.le s i1
  refine run _ ?_
  refine ro_splitP 17 rfl (fun hlt => ?_) (fun hge => ?_)
  · cases fl with
    | true =>
      refine runO _ ?_
      refine run _ ?_
      have h4 := i4 rfl
      refine J_condP rfl (fun hg => absurd hg (by simp; omega)) (fun _ => ?_)
      refine run _ ?_
      refine ro_splitP 40 rfl (fun h0 => ?_) (fun h0 => ?_)
      · refine runO _ ?_
        refine ro_loadA rfl rfl (by simp [S.e0]) S.e0n S.e0g rfl ?_
        refine runO _ ?_
        obtain ⟨i, hi, hcmp⟩ := ptrInfo
        refine ro_eqPtrs (r := true) (B := S.E1) (B' := S.E1) rfl rfl rfl rfl hi hcmp rfl (.inl ⟨rfl, by simp⟩) rfl ?_
        refine runO _ ?_
        refine run _ ?_
        refine ro_loadA rfl rfl (by simp [S.u0]) S.u0n S.u0g rfl ?_
        refine runO _ ?_
        refine run _ ?_
        refine J_ret ?_
        have hk0 : 0 < k := by simpa using h0
        exact ends_retS [6, 7] ⟨s, k, i1, by omega, i3, rfl, (fullV_ueof (by omega) (by omega)).symm⟩
      · refine runO _ ?_
        refine run _ ?_
        refine J_ret ?_
        have hk0 : k = 0 := by simp at h0; omega
        subst hk0
        exact ends_retS [6, 7] ⟨s, 0, i1, by omega, i3, rfl, (fullV_eof (by omega) rfl).symm⟩
    | false =>
      have hlt' : k < len := by simpa using hlt
      refine runO _ ?_
      refine run _ ?_
      refine ro_sl k len rfl rfl rfl rfl rfl (by omega) (by omega) (by omega) rfl ?_
      refine runO _ ?_
      refine ro_nilCheckM src.mth rfl src.ptr rfl ?_
      refine runO _ ?_
      refine ro_callI src.mth src.ptr src.go (src.rd s b (o + k) (len - k) (cap - k) (putB B o k dat (src.pos s0)) i1 hfr (by show _ ≤ B.n; omega) (by omega)) ?_
      rintro v m ⟨s', k', j1, j2, j3, j4, rfl, rfl⟩
      have lim' := src.le s' j1
      by_cases hp : src.pos s < N
      · rw [if_pos hp]
        refine runO _ ?_
        refine run _ ?_
        have hcp := j4 (by omega) hp
        refine ⟨(s', k + k', false), ?_, ⟨j1, ?_, ?_, fun h => by cases h⟩, ⟨rfl, rfl, rfl, rfl, rfl, trivial⟩, ?_⟩
        · simp only; omega
        · simp only; omega
        · simp only; omega
        · refine MEqv.cons ?_ (MEqv.appNil _)
          simp only [putB, i3, blit_glue]
      · rw [if_neg hp]
        refine runO _ ?_
        refine run _ ?_
        have h0c : k' = 0 := by omega
        refine ⟨(s', k + k', true), ?_, ⟨j1, ?_, ?_, fun _ => ⟨?_, ?_⟩⟩, ⟨rfl, rfl, rfl, rfl, rfl, trivial⟩, ?_⟩
        · simp only [h0c]; simp
        · simp only; omega
        · simp only; omega
        · simp only; omega
        · simp only; omega
        · refine MEqv.cons ?_ (MEqv.appNil _)
          simp only [putB, i3, blit_glue]
  · refine runO _ ?_
    refine run _ ?_
    refine J_condP rfl (fun hg => ?_) (fun hl => absurd hge (by simp at hl ⊢; omega))
    have hkl : k = len := by simp at hg; omega
    subst hkl
    refine run _ ?_
    refine J_ret ?_
    exact ends_retS [6, 7] ⟨s, k, i1, by omega, i3, rfl, (fullV_ok (Nat.le_refl _)).symm⟩

theorem full_t (src : Source S dat N) (s0 : src.σ) (b o len cap : Nat) (B : Blk) (hok : src.ok s0) (hfr : B.fr = (0, 0)) (ho : o + len ≤ B.n) (hc : len ≤ cap) (hl : len < 2 ^ 62) :
    Trip Tryd.prog G 36 #[.iface src.t src.rv, .slice (some ⟨b, o, none⟩) len cap] ((b, B) :: src.mem s0) (fun v m =>
      ∃ s' k, src.ok s' ∧ k = min len (N - src.pos s0) ∧ src.pos s' = src.pos s0 + k ∧ m = (b, putB B o k dat (src.pos s0)) :: src.mem s' ∧
        v = fullV S len k) := by
  refine Trip_of Tryd.func36 rfl (by show 2 ≤ _; decide) (args := [.iface src.t src.rv, .slice (some ⟨b, o, none⟩) len cap]) fun c h0 hex => ?_
  refine run _ ?_
  refine ro_callT (atLeast_t src s0 b o len cap B hok hfr ho hc hl) ?_
  rintro v m ⟨s', k, h1, h2, h3, rfl, rfl⟩
  by_cases h4 : len ≤ k
  · rw [fullV_ok h4]
    refine runO _ ?_
    refine run _ ?_
    refine J_ret ?_
    exact ends_retS [4, 5] ⟨s', k, h1, h2, h3, rfl, (fullV_ok h4).symm⟩
  · by_cases h5 : k = 0
    · rw [fullV_eof h4 h5]
      refine runO _ ?_
      refine run _ ?_
      refine J_ret ?_
      exact ends_retS [4, 5] ⟨s', k, h1, h2, h3, rfl, (fullV_eof h4 h5).symm⟩
    · rw [fullV_ueof h4 h5]
      refine runO _ ?_
      refine run _ ?_
      refine J_ret ?_
      exact ends_retS [4, 5] ⟨s', k, h1, h2, h3, rfl, (fullV_ueof h4 h5).symm⟩
end Go.Proofs.YtogmacnlpclgkaaDoor

/-! WALKS 4: THE READER'S STATE; xxhash64.reset, window.reset. -/
namespace Go.Proofs.YtogmacnlpclgkaaDoor
open Go Go.Eng
attribute [local irreducible] RO J Trip Quiet

/-- What a Reader holds (its block offset, of which nothing but errors' texts hangs, stands beside). -/
structure RS where
  rv : Value
  saw : Bool
  sum : Bool
  one : Bool
  unk : Bool
  rem : Nat
  buf : Value
  off : Nat
  r1 : Nat
  r2 : Nat
  r3 : Nat
  ht : Value
  hb : Nat
  wsz : Nat
  wd : Value
  wo : Nat
  cb : Value
  lit : Value
  st0 : Value
  st1 : Value
  st2 : Value
  sb0 : Nat
  sb1 : Nat
  sb2 : Nat
  tb0 : Value
  tb1 : Value
  tb2 : Value
  scr : Nat → Nat
  fs : Value
  xl : Nat
  xv : Nat → Nat
  xb : Nat → Nat
  xc : Nat

def u8s (x : Nat → Nat) : Nat → Nat → List Value
  | _, 0 => []
  | i, n + 1 => .int .u8 (x i) :: u8s x (i + 1) n
def rdL (x : Int) (s : RS) : List Value :=
  [s.rv, .bool s.saw, .bool s.sum, .bool s.one, .bool s.unk, .int .u64 s.rem, .int .i64 x, s.buf, .int .i64 s.off, .int .u32 s.r1, .int .u32 s.r2, .int .u32 s.r3, s.ht, .int .i64 s.hb, .int .i64 s.wsz, s.wd, .int .i64 s.wo, s.cb, s.lit,
   s.st0, s.st1, s.st2, .int .u8 s.sb0, .int .u8 s.sb1, .int .u8 s.sb2, s.tb0, s.tb1, s.tb2,
   .int .u8 (s.scr 0), .int .u8 (s.scr 1), .int .u8 (s.scr 2), .int .u8 (s.scr 3), .int .u8 (s.scr 4), .int .u8 (s.scr 5), .int .u8 (s.scr 6), .int .u8 (s.scr 7), .int .u8 (s.scr 8), .int .u8 (s.scr 9), .int .u8 (s.scr 10), .int .u8 (s.scr 11), .int .u8 (s.scr 12), .int .u8 (s.scr 13), .int .u8 (s.scr 14), .int .u8 (s.scr 15),
   s.fs, .int .u64 s.xl, .int .u64 (s.xv 0), .int .u64 (s.xv 1), .int .u64 (s.xv 2), .int .u64 (s.xv 3),
   .int .u8 (s.xb 0), .int .u8 (s.xb 1), .int .u8 (s.xb 2), .int .u8 (s.xb 3), .int .u8 (s.xb 4), .int .u8 (s.xb 5), .int .u8 (s.xb 6), .int .u8 (s.xb 7), .int .u8 (s.xb 8), .int .u8 (s.xb 9), .int .u8 (s.xb 10), .int .u8 (s.xb 11), .int .u8 (s.xb 12), .int .u8 (s.xb 13), .int .u8 (s.xb 14), .int .u8 (s.xb 15),
   .int .u8 (s.xb 16), .int .u8 (s.xb 17), .int .u8 (s.xb 18), .int .u8 (s.xb 19), .int .u8 (s.xb 20), .int .u8 (s.xb 21), .int .u8 (s.xb 22), .int .u8 (s.xb 23), .int .u8 (s.xb 24), .int .u8 (s.xb 25), .int .u8 (s.xb 26), .int .u8 (s.xb 27), .int .u8 (s.xb 28), .int .u8 (s.xb 29), .int .u8 (s.xb 30), .int .u8 (s.xb 31),
   .int .i64 s.xc]
def rdB (x : Int) (s : RS) : Blk := ⟨83, listG (rdL x s), 90, (0, 0)⟩

abbrev RS.wRv (s : RS) (v : Value) : RS := { s with rv := v }
abbrev RS.wBuf (s : RS) (v : Value) : RS := { s with buf := v }
abbrev RS.wOff (s : RS) (o : Nat) : RS := { s with off := o }
abbrev RS.wRem (s : RS) (n : Nat) : RS := { s with rem := n }
abbrev RS.wSaw (s : RS) (b : Bool) : RS := { s with saw := b }
abbrev RS.wWin (s : RS) (z : Nat) (v : Value) (o : Nat) : RS := { s with wsz := z, wd := v, wo := o }
abbrev RS.wRep (s : RS) (a b c : Nat) : RS := { s with r1 := a, r2 := b, r3 := c }
abbrev RS.wHuf (s : RS) (v : Value) (n : Nat) : RS := { s with ht := v, hb := n }
abbrev RS.wCb (s : RS) (v : Value) : RS := { s with cb := v }
abbrev RS.wLit (s : RS) (v : Value) : RS := { s with lit := v }
abbrev RS.wFs (s : RS) (v : Value) : RS := { s with fs := v }
abbrev RS.wScr (s : RS) (f : Nat → Nat) : RS := { s with scr := f }
abbrev RS.wChk (s : RS) (l : Nat) (v b : Nat → Nat) (n : Nat) : RS := { s with xl := l, xv := v, xb := b, xc := n }
abbrev RS.wSeq (s : RS) (a0 a1 a2 : Value) (b0 b1 b2 : Nat) (c0 c1 c2 : Value) : RS := { s with st0 := a0, st1 := a1, st2 := a2, sb0 := b0, sb1 := b1, sb2 := b2, tb0 := c0, tb1 := c1, tb2 := c2 }
theorem RS.wBuf_self (s : RS) : s.wBuf s.buf = s := rfl
theorem RS.wWin_self (s : RS) : s.wWin s.wsz s.wd s.wo = s := rfl
theorem RS.wOff_self (s : RS) : s.wOff s.off = s := rfl
theorem RS.wRv_self (s : RS) : s.wRv s.rv = s := rfl

def RS.xreset (s : RS) : RS := { s with xl := 0, xv := fun i => [6983438078262162902, 14029467366897019727, 0, 7046029288634856825].getD i 0, xb := fun _ => 0, xc := 0 }

theorem xreset_t (G : Mem) (rb : Nat) (x : Int) (s : RS) : Trip Tryd.prog G 42 #[.pointer (some ⟨rb, 45, none⟩)] [(rb, rdB x s)] (fun v m => m = [(rb, rdB x s.xreset)]) := by
  refine Trip_of Tryd.func42 rfl (by show 1 ≤ _; decide) (args := [.pointer (some ⟨rb, 45, none⟩)]) fun c h0 hex => ?_
  refine run _ ?_
  refine ro_bin (op := .add) (v := .int .u64 6983438078262162902) rfl rfl rfl rfl ?_
  refine runO _ ?_
  refine run _ ?_
  refine ro_neg rfl rfl ?_
  refine runO _ ?_
  refine run _ ?_
  refine ro_arrTo 32 rfl rfl rfl rfl (by omega) rfl ?_
  refine runO _ ?_
  refine ro_clear1 (z := .int .u8 0) rfl rfl rfl rfl z5 rfl .here rfl (by show _ ≤ 83; decide) hex rfl ?_
  refine runO _ ?_
  refine run _ ?_
  exact ends_normalS [] (post := [(rb, rdB x s.xreset)]) (junk := []) rfl rfl (.cons (blk_tab rfl rfl rfl rfl) .nil)

theorem wreset_t (G : Mem) (rb : Nat) (x : Int) (s : RS) (size len : Nat) (cl : Nat → Value) (wm : Mem) (hw : SlM 1 s.wd len cl wm) (hs : size ≤ 2 ^ 30) :
    Trip Tryd.prog G 45 #[.pointer (some ⟨rb, 14, none⟩), .int .i64 size] ((rb, rdB x s) :: wm) (fun _ m => ∃ wd' wm', SlM 1 wd' 0 (fun _ => undef) wm' ∧ m = (rb, rdB x { s with wsz := size, wd := wd', wo := 0 }) :: wm') := by
  refine Trip_of Tryd.func45 rfl (by show 2 ≤ _; decide) (args := [.pointer (some ⟨rb, 14, none⟩), .int .i64 size]) fun c h0 hex => ?_
  rcases hw with ⟨hv, rfl, rfl⟩ | ⟨b, o, cap, B, hv, rfl, hf, ho, hlc, hcl⟩
  · refine run _ ?_
    refine ro_sliceNil hv rfl rfl rfl rfl rfl ?_
    refine runO _ ?_
    refine run _ ?_
    refine J_condP rfl (fun hlt => ?_) (fun hge => ?_)
    · refine run _ ?_
      refine ro_make (len := 0) (cap := size) rfl rfl rfl rfl z5 (by decide) (by omega) (by omega) hex rfl fun b' hb' => ?_
      refine runO _ ?_
      refine run _ ?_
      exact ends_normalS [] (post := [(rb, rdB x { s with wsz := size, wd := .slice (some ⟨b', 0, none⟩) 0 size, wo := 0 }), (b', _)]) (junk := [])
        ⟨_, [(b', _)], .inr ⟨b', 0, size, _, rfl, rfl, rfl, by simp, by omega, fun i hi => by omega⟩, rfl⟩ rfl
        ((MEqv.of_perm (List.Perm.swap _ _ _)).trans (.cons (blk_tab rfl rfl rfl rfl) (.refl _)))
    · have h0s : size = 0 := by omega
      subst h0s
      refine run _ ?_
      exact ends_normalS [] (post := [(rb, rdB x { s with wsz := 0, wd := .slice none 0 0, wo := 0 })]) (junk := [])
        ⟨_, [], .inl ⟨rfl, rfl, rfl⟩, rfl⟩ rfl (.cons (blk_tab rfl rfl rfl rfl) (.refl _))
  · refine run _ ?_
    refine ro_slTo 0 hv rfl rfl rfl (by omega) rfl ?_
    refine runO _ ?_
    refine run _ ?_
    refine J_condP rfl (fun hlt => ?_) (fun hge => ?_)
    · refine run _ ?_
      refine ro_make (len := 0) (cap := size) rfl rfl rfl rfl z5 (by decide) (by omega) (by omega) hex rfl fun b' hb' => ?_
      refine runO _ ?_
      refine run _ ?_
      exact ends_normalS [] (post := [(rb, rdB x { s with wsz := size, wd := .slice (some ⟨b', 0, none⟩) 0 size, wo := 0 }), (b', _)]) (junk := [(b, B)])
        ⟨_, [(b', _)], .inr ⟨b', 0, size, _, rfl, rfl, rfl, by simp, by omega, fun i hi => by omega⟩, rfl⟩ rfl
        ((MEqv.of_perm (List.Perm.swap _ _ _)).trans (.cons (blk_tab rfl rfl rfl rfl) (.refl _)))
    · refine run _ ?_
      exact ends_normalS [] (post := [(rb, rdB x { s with wsz := size, wd := .slice (some ⟨b, o, none⟩) 0 cap, wo := 0 }), (b, B)]) (junk := [])
        ⟨_, [(b, B)], .inr ⟨b, o, cap, B, rfl, rfl, hf, ho, by omega, fun i hi => by omega⟩, rfl⟩ rfl
        (.cons (blk_tab rfl rfl rfl rfl) (.refl _))
end Go.Proofs.YtogmacnlpclgkaaDoor

/-! WALKS 5: zzBytes; discard; skipFrame. -/
namespace Go.Proofs.YtogmacnlpclgkaaDoor
open Go Go.Eng
attribute [local irreducible] RO J Trip Quiet

theorem zBig : zeroL Tryd.prog 121 = some (List.replicate 512 (.int .u8 0)) := by kernel_rfl

theorem zBigE : ∃ zs, zeroL Tryd.prog 121 = some zs ∧ zs.length = 512 := ⟨_, zBig, List.length_replicate⟩

theorem discard_t {G : Mem} {S : Sent G} {dat : Nat → Nat} {N : Nat} (src : Source S dat N) (s0 : src.σ) (hok : src.ok s0) (n : Nat) (hn : n < 2 ^ 40) :
    Trip Tryd.prog G 49 #[.iface src.t src.rv, .int .i64 n] (src.mem s0) (fun v m =>
      ∃ s' k, src.ok s' ∧ k = min n (N - src.pos s0) ∧ src.pos s' = src.pos s0 + k ∧ m = src.mem s' ∧
        v = .tuple #[.int .i64 k, if n ≤ k then .nilIface else S.eofV]) := by
  refine Trip_of Tryd.func49 rfl (by show 2 ≤ _; decide) (args := [.iface src.t src.rv, .int .i64 n]) fun c h0 hex => ?_
  refine run _ ?_
  obtain ⟨zs, hz, hzl⟩ := zBigE
  refine ro_alloc hz rfl hex fun bb hbb => ?_
  refine runO _ ?_
  refine run _ ?_
  refine J_loopS (σ := src.σ × Nat × Blk) (fun s => [(0, .iface src.t src.rv), (1, .int .i64 n), (6, .pointer (some ⟨bb, 0, none⟩)), (7, .int .i64 s.2.1)])
    (fun s => (bb, s.2.2) :: src.mem s.1)
    (fun s => src.ok s.1 ∧ s.2.1 ≤ n ∧ src.pos s.1 = src.pos s0 + s.2.1 ∧ s.2.2.n = 512 ∧ s.2.2.fr = (0, 0)) (fun s => n - s.2.1) (s0, 0, _)
    ⟨rfl, rfl, rfl, rfl, trivial⟩ (.refl _) ⟨hok, Nat.zero_le _, rfl, hzl, rfl⟩ ?_
  rintro ⟨s, k, B⟩ f ⟨i1, i2, i3, i4, i5⟩
  simp only at i1 i2 i3 i4 i5
  have lim := src.le s i1
  refine run _ ?_
  refine J_condP rfl (fun hlt => ?_) (fun hge => ?_)
  · have hlt : k < n := by simpa using hlt
    refine run _ ?_
    refine ro_min rfl rfl rfl ?_
    obtain ⟨q, hq, hq0, hq1, hq2⟩ : ∃ q : Nat, (if (512 : Int) < (n : Int) - (k : Int) then (512 : Int) else (n : Int) - (k : Int)) = (q : Int) ∧ 0 < q ∧ q ≤ 512 ∧ q ≤ n - k := by
      by_cases h : (512 : Int) < (n : Int) - (k : Int)
      · exact ⟨512, by rw [if_pos h]; rfl, by omega, by omega, by omega⟩
      · exact ⟨n - k, by rw [if_neg h]; omega, by omega, by omega, by omega⟩
    simp only [hq]
    refine runO _ ?_
    refine ro_arrTo q rfl rfl rfl rfl hq1 rfl ?_
    refine runO _ ?_
    refine ro_nilCheckM src.mth rfl src.ptr rfl ?_
    refine runO _ ?_
    refine ro_callI src.mth src.ptr src.go (src.rd s bb 0 q 512 B i1 i5 (by omega) hq1) ?_
    rintro v m ⟨s', k', j1, j2, j3, j4, rfl, rfl⟩
    have lim' := src.le s' j1
    by_cases hp : src.pos s < N
    · have hk' := j4 hq0 hp
      rw [if_pos hp]
      refine runO _ ?_
      refine run _ ?_
      refine J_condP rfl (fun hend => ?_) (fun hgo => ?_)
      · refine run _ ?_
        refine J_ret ?_
        have hkn : n ≤ k + k' := by omega
        exact ends_retS [4, 5] ⟨s', k + k', j1, by omega, by omega, rfl, by rw [if_pos hkn]; rfl⟩
      · refine run _ ?_
        exact ⟨(s', k + k', putB B 0 k' dat (src.pos s)), by simp only; omega, ⟨j1, by simp only; omega, by simp only; omega, i4, i5⟩, ⟨rfl, rfl, rfl, rfl, trivial⟩, MEqv.appNil _⟩
    · have hk' : k' = 0 := by omega
      subst hk'
      rw [if_neg hp]
      refine runO _ ?_
      refine run _ ?_
      refine J_condP rfl (fun hend => absurd hend (by omega)) (fun hgo => ?_)
      refine run _ ?_
      refine J_ret ?_
      have hkn : ¬ n ≤ k := by omega
      exact ends_retS [4, 5] ⟨s', k, j1, by omega, by omega, rfl, by rw [if_neg hkn]; rfl⟩
  · have hkn : n ≤ k := by simp at hge; omega
    refine run _ ?_
    refine J_ret ?_
    exact ends_retS [4, 5] ⟨s, k, i1, by omega, by omega, rfl, by rw [if_pos hkn]; rfl⟩
end Go.Proofs.YtogmacnlpclgkaaDoor

/-! WALKS 6: ReadFull INTO THE SCRATCH; skipFrame. -/
namespace Go.Proofs.YtogmacnlpclgkaaDoor
open Go Go.Eng
attribute [local irreducible] RO J Trip Quiet

section
attribute [local semireducible] Trip
theorem _root_.Go.Eng.Trip.eqv {P : Program} {G : Mem} {fn : FuncId} {args : Array Value} {m : Mem} {R R' : Value → Mem → Prop} (t : Trip P G fn args m R) (h : ∀ v m', R v m' → ∃ m'', MEqv m' m'' ∧ R' v m'') : Trip P G fn args m R' :=
  fun c h' w hc o => (t c h' w hc o).mono fun _ _ ⟨v, m', h'', e, hc', o', r⟩ => by
    obtain ⟨m'', e2, r2⟩ := h _ _ r
    exact ⟨v, m'', h'', e, hc', o'.eqv e2, r2⟩
end

def ov (scr : Nat → Nat) (n : Nat) (dat : Nat → Nat) (p : Nat) : Nat → Nat := fun i => if i < n then dat (p + i) else scr i
theorem rd_scr (x : Int) (s : RS) : ∀ j, j < 16 → listG (rdL x s) (28 + j) = .int .u8 (s.scr j)
  | 0, _ => rfl | 1, _ => rfl | 2, _ => rfl | 3, _ => rfl | 4, _ => rfl | 5, _ => rfl | 6, _ => rfl | 7, _ => rfl
  | 8, _ => rfl | 9, _ => rfl | 10, _ => rfl | 11, _ => rfl | 12, _ => rfl | 13, _ => rfl | 14, _ => rfl | 15, _ => rfl
  | j + 16, h => absurd h (by omega)
theorem rd_lo (x : Int) (s : RS) (g : Nat → Nat) : ∀ i, i < 28 → listG (rdL x s) i = listG (rdL x { s with scr := g }) i
  | 0, _ => rfl | 1, _ => rfl | 2, _ => rfl | 3, _ => rfl | 4, _ => rfl | 5, _ => rfl | 6, _ => rfl | 7, _ => rfl
  | 8, _ => rfl | 9, _ => rfl | 10, _ => rfl | 11, _ => rfl | 12, _ => rfl | 13, _ => rfl | 14, _ => rfl | 15, _ => rfl
  | 16, _ => rfl | 17, _ => rfl | 18, _ => rfl | 19, _ => rfl | 20, _ => rfl | 21, _ => rfl | 22, _ => rfl | 23, _ => rfl
  | 24, _ => rfl | 25, _ => rfl | 26, _ => rfl | 27, _ => rfl
  | j + 28, h => absurd h (by omega)
theorem rd_hi (x : Int) (s : RS) (g : Nat → Nat) (j : Nat) : listG (rdL x s) (j + 44) = listG (rdL x { s with scr := g }) (j + 44) := rfl
theorem rd_put (x : Int) (s : RS) (n : Nat) (hn : n ≤ 16) (dat : Nat → Nat) (p : Nat) : (putB (rdB x s) 28 n dat p).obj = (rdB x { s with scr := ov s.scr n dat p }).obj := by
  refine obj_congr fun i _ => ?_
  show blit (listG (rdL x s)) 28 n (byteG dat p) i = listG (rdL x { s with scr := ov s.scr n dat p }) i
  by_cases h1 : i < 28
  · rw [blit_out _ _ _ _ _ (by omega)]; exact rd_lo x s _ i h1
  · by_cases h2 : i < 44
    · obtain ⟨j, rfl⟩ : ∃ j, i = 28 + j := ⟨i - 28, by omega⟩
      rw [rd_scr x { s with scr := ov s.scr n dat p } j (by omega)]
      by_cases h3 : j < n
      · rw [blit_in _ _ _ _ _ (by omega) (by omega)]
        simp only [byteG, ov, if_pos h3]; rw [show 28 + j - 28 = j by omega]
      · rw [blit_out _ _ _ _ _ (by omega), rd_scr x s j (by omega)]
        simp only [ov, if_neg h3]
    · obtain ⟨j, rfl⟩ : ∃ j, i = j + 44 := ⟨i - 44, by omega⟩
      rw [blit_out _ _ _ _ _ (by omega)]; exact rd_hi x s _ j

variable {G : Mem} {S : Sent G} {dat : Nat → Nat} {N : Nat}

theorem rfull_t (src : Source S dat N) (q0 : src.σ) (rb : Nat) (x : Int) (s : RS) (n : Nat) (hok : src.ok q0) (hn : n ≤ 16) :
    Trip Tryd.prog G 36 #[.iface src.t src.rv, .slice (some ⟨rb, 28, none⟩) n 16] ((rb, rdB x s) :: src.mem q0) (fun v m =>
      ∃ q' k, src.ok q' ∧ k = min n (N - src.pos q0) ∧ src.pos q' = src.pos q0 + k ∧ m = (rb, rdB x { s with scr := ov s.scr k dat (src.pos q0) }) :: src.mem q' ∧ v = fullV S n k) := by
  refine (full_t src q0 rb 28 n 16 (rdB x s) hok rfl (by show _ ≤ 83; omega) hn (by omega)).eqv ?_
  rintro v m ⟨q', k, h1, h2, h3, rfl, h4⟩
  exact ⟨_, MEqv.cons (rd_put x s k (by omega) dat _) (.refl _), q', k, h1, h2, h3, rfl, h4⟩

theorem wnonE_t (S : Sent G) (rb : Nat) (x : Int) (s : RS) (off : Int) : Trip Tryd.prog G 41 #[.pointer (some ⟨rb, 0, none⟩), .int .i64 off, .iface 122 (.pointer (some ⟨S.eb, S.eo, none⟩))] [(rb, rdB x s)] (fun v m => ErrV S .z v ∧ m = [(rb, rdB x s)]) :=
  wrapNonEOF_t G S rb (rdB x s) x off .eof S.eofV (.inl rfl) rfl (by show 6 < 83; decide) rfl
theorem wnonU_t (S : Sent G) (rb : Nat) (x : Int) (s : RS) (off : Int) : Trip Tryd.prog G 41 #[.pointer (some ⟨rb, 0, none⟩), .int .i64 off, .iface 122 (.pointer (some ⟨S.ub, S.uo, none⟩))] [(rb, rdB x s)] (fun v m => ErrV S .z v ∧ m = [(rb, rdB x s)]) :=
  wrapNonEOF_t G S rb (rdB x s) x off .ueof S.ueofV (.inr rfl) rfl (by show 6 < 83; decide) rfl
theorem merr_t (S : Sent G) (rb : Nat) (x : Int) (s : RS) (off : Int) (str : ByteArray) : Trip Tryd.prog G 40 #[.pointer (some ⟨rb, 0, none⟩), .int .i64 off, .string str] [(rb, rdB x s)] (fun v m => ErrV S .z v ∧ m = [(rb, rdB x s)]) :=
  makeError_t G S rb (rdB x s) x off str (by show 6 < 83; decide) rfl
theorem meof_t (S : Sent G) (rb : Nat) (x : Int) (s : RS) (off : Int) : Trip Tryd.prog G 48 #[.pointer (some ⟨rb, 0, none⟩), .int .i64 off] [(rb, rdB x s)] (fun v m => ErrV S .z v ∧ m = [(rb, rdB x s)]) :=
  makeEOFError_t G S rb (rdB x s) x off (by show 6 < 83; decide) rfl
theorem wueof_t (S : Sent G) (rb : Nat) (x : Int) (s : RS) (off : Int) : Trip Tryd.prog G 37 #[.pointer (some ⟨rb, 0, none⟩), .int .i64 off, .iface 122 (.pointer (some ⟨S.ub, S.uo, none⟩))] [(rb, rdB x s)] (fun v m => ErrV S .z v ∧ m = [(rb, rdB x s)]) :=
  wrapError_z G S rb (rdB x s) x off (by show 6 < 83; decide) rfl S.ub S.uo [] S.U1 (by simp [S.u1]) S.u1f (fun _ => S.ne)

/-- The scratch as a text. -/
theorem scr_text {m : Mem} (rb : Nat) (x : Int) (s : RS) (hm : (rb, rdB x s) ∈ m) (o n : Nat) (h : o + n ≤ 16) (hb : ∀ i, s.scr i < 256) : Text m rb (28 + o) n (fun i => s.scr (o + i)) (rdB x s) :=
  ⟨hm, by show _ ≤ 83; omega, fun i hi => by rw [Nat.add_assoc]; exact rd_scr x s (o + i) (by omega), fun i => hb _⟩

theorem rd_boff (x y : Int) (s : RS) : ((rdB x s).st 6 (.int .i64 y)).obj = (rdB y s).obj := blk_tab rfl rfl rfl rfl
theorem seekZ : (Tryd.prog.info? 112).bind (·.zero) = some .nilIface := by kernel_rfl

/-- What skipFrame does with a skippable frame, of which the magic number has been read. -/
def SkipT (src : Source S dat N) : Prop := ∀ (q0 : src.σ) (rb : Nat) (x : Int) (s : RS), src.ok q0 → s.rv = .iface src.t src.rv → (∀ i, s.scr i < 256) →
    Trip Tryd.prog G 39 #[.pointer (some ⟨rb, 0, none⟩)] ((rb, rdB x s) :: src.mem q0) (fun v m =>
      ∃ x' q' k, src.ok q' ∧ k = min 4 (N - src.pos q0) ∧ m = (rb, rdB x' { s with scr := ov s.scr k dat (src.pos q0) }) :: src.mem q' ∧
        ((4 + le4 (fun i => dat (src.pos q0 + i)) ≤ N - src.pos q0 ∧ v = .nilIface ∧ src.pos q' = src.pos q0 + 4 + le4 (fun i => dat (src.pos q0 + i))) ∨
         (¬ 4 + le4 (fun i => dat (src.pos q0 + i)) ≤ N - src.pos q0 ∧ ErrV S .z v ∧ src.pos q' = N)))

theorem skip_t (src : Source S dat N) (hd : ∀ i, dat i < 256) (hta : taOk Tryd.prog 112 src.t = some false) : SkipT src := by
  intro q0 rb x s hok hrv hscr
  refine Trip_of Tryd.func39 rfl (by show 1 ≤ _; decide) (args := [.pointer (some ⟨rb, 0, none⟩)]) fun c h0 hex => ?_
  have lim := src.le q0 hok
  obtain ⟨s, rfl⟩ : ∃ s', s = { s' with rv := .iface src.t src.rv } := ⟨s, by cases s; simp only at hrv; rw [hrv]⟩
  clear hrv
  have hsc : ∀ i, s.scr i < 256 := hscr
  clear hscr
  refine run _ ?_
  refine ro_arrTo 4 rfl rfl rfl rfl (by omega) rfl ?_
  refine runO _ ?_
  refine ro_callT (rfull_t src q0 rb x { s with rv := .iface src.t src.rv } 4 hok (by omega)) ?_
  rintro v m ⟨q', k, h1, h2, h3, rfl, rfl⟩
  by_cases h4 : 4 ≤ k
  · rw [fullV_ok h4]
    refine runO _ ?_
    refine run _ ?_
    obtain rfl : k = 4 := by omega
    have hsc' : ∀ i, ov s.scr 4 dat (src.pos q0) i < 256 := fun i => by unfold ov; split; exact hd _; exact hsc _
    refine ro_arrTo 4 rfl rfl rfl rfl (by omega) rfl ?_
    refine runO _ ?_
    refine ro_callQT (le32_q G _ rb 28 4 16 _ _ (scr_text rb x _ (by simp; exact .inl rfl) 0 4 (by omega) hsc') (by omega)) ?_
    have hle : le4 (fun i => ov s.scr 4 dat (src.pos q0) (0 + i)) = le4 (fun i => dat (src.pos q0 + i)) := by simp [le4, ov]
    simp only [hle]
    have hlt := le4_lt (fun i => dat (src.pos q0 + i)) (fun i => hd _)
    generalize hz : le4 (fun i => dat (src.pos q0 + i)) = z at *
    refine runO _ ?_
    refine run _ ?_
    refine J_condP rfl (fun h0z => ?_) (fun h0z => ?_)
    · refine run _ ?_
      refine ro_bin (op := .add) rfl rfl rfl rfl ?_
      refine runO _ ?_
      refine run _ ?_
      refine J_ret ?_
      exact ends_ret [2] rfl (post := (rb, rdB _ _) :: src.mem q') (junk := []) (.cons (rd_boff _ _ _) (by simpa using MEqv.refl _))
        ⟨_, q', 4, h1, h2, rfl, .inl ⟨by omega, rfl, by omega⟩⟩
    · refine run _ ?_
      refine ro_taI rfl hta seekZ rfl ?_
      refine runO _ ?_
      refine run _ ?_
      refine ro_callTF (discard_t src q' h1 z (by omega)) ?_
      rintro v m ⟨q2, k2, g1, g2, g3, rfl, rfl⟩
      by_cases hk2 : z ≤ k2
      · rw [if_pos hk2]
        refine runO _ ?_
        refine run _ ?_
        refine ro_bin (op := .add) rfl rfl rfl rfl ?_
        refine runO _ ?_
        refine run _ ?_
        refine J_ret ?_
        exact ends_ret [2] rfl (post := (rb, rdB _ _) :: src.mem q2) (junk := []) (.cons (rd_boff _ _ _) (by simpa using MEqv.refl _))
          ⟨_, q2, 4, g1, h2, rfl, .inl ⟨by omega, rfl, by omega⟩⟩
      · rw [if_neg hk2]
        refine runO _ ?_
        refine run _ ?_
        refine ro_callT (wnonE_t S rb x _ _) ?_
        rintro v m ⟨hv, rfl⟩
        obtain ⟨b', rfl⟩ := hv
        refine runO _ ?_
        refine run _ ?_
        refine J_ret ?_
        exact ends_retS [2] ⟨x, q2, 4, g1, h2, rfl, .inr ⟨by omega, ⟨b', rfl⟩, by omega⟩⟩
  · by_cases h5 : k = 0
    · rw [fullV_eof h4 h5]
      refine runO _ ?_
      refine run _ ?_
      refine ro_callT (wnonE_t S rb x _ 0) ?_
      rintro v m ⟨hv, rfl⟩
      obtain ⟨b', rfl⟩ := hv
      refine runO _ ?_
      refine run _ ?_
      refine J_ret ?_
      exact ends_retS [2] ⟨x, q', k, h1, h2, rfl, .inr ⟨by omega, ⟨b', rfl⟩, by omega⟩⟩
    · rw [fullV_ueof h4 h5]
      refine runO _ ?_
      refine run _ ?_
      refine ro_callT (wnonU_t S rb x _ 0) ?_
      rintro v m ⟨hv, rfl⟩
      obtain ⟨b', rfl⟩ := hv
      refine runO _ ?_
      refine run _ ?_
      refine J_ret ?_
      exact ends_retS [2] ⟨x, q', k, h1, h2, rfl, .inr ⟨by omega, ⟨b', rfl⟩, by omega⟩⟩
end Go.Proofs.YtogmacnlpclgkaaDoor
