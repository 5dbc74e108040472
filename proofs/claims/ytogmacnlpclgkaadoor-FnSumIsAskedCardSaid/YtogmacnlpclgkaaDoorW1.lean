/-
  WALKS 1: ERRORS.
-/
import Derived.Test.YtogmacnlpclgkaaDoorEng9
namespace Go.Proofs.YtogmacnlpclgkaaDoor
open Go Go.Eng
attribute [local irreducible] RO J Trip Quiet

/-- The package-level variables, among the blocks that nobody turns. -/
structure Sent (G : Mem) where
  eb : Nat
  eo : Nat
  ub : Nat
  uo : Nat
  E0 : Blk
  E1 : Blk
  U0 : Blk
  U1 : Blk
  e0 : (0, E0) ∈ G
  e0n : 0 < E0.n
  e0g : E0.g 0 = .iface 122 (.pointer (some ⟨eb, eo, none⟩))
  e1 : (eb, E1) ∈ G
  e1f : E1.fr = (0, 0)
  u0 : (1, U0) ∈ G
  u0n : 0 < U0.n
  u0g : U0.g 0 = .iface 122 (.pointer (some ⟨ub, uo, none⟩))
  u1 : (ub, U1) ∈ G
  u1f : U1.fr = (0, 0)
  ne : ub ≠ eb ∨ uo ≠ eo

theorem swap1 (p : Nat × Blk) (m : Mem) : MEqv (p :: m) (m ++ [p]) := .of_perm (by simpa using (List.perm_append_comm (l₁ := [p]) (l₂ := m)))

/-- What an error is. -/
inductive EV
  | nil | eof | ueof | z
def Sent.eofV {G : Mem} (S : Sent G) : Value := .iface 122 (.pointer (some ⟨S.eb, S.eo, none⟩))
def Sent.ueofV {G : Mem} (S : Sent G) : Value := .iface 122 (.pointer (some ⟨S.ub, S.uo, none⟩))
def ErrV {G : Mem} (S : Sent G) : EV → Value → Prop
  | .nil, v => v = .nilIface
  | .eof, v => v = S.eofV
  | .ueof, v => v = S.ueofV
  | .z, v => ∃ b, v = .iface 108 (.pointer (some ⟨b, 0, none⟩))

theorem ptrInfo0 : (Tryd.prog.info? 122).map (·.comparable) = some true := by kernel_rfl
theorem ptrInfo : ∃ i, Tryd.prog.info? 122 = some i ∧ i.comparable = true := by
  have := ptrInfo0
  simpa [Option.map_eq_some_iff] using this

/-- errors.New -/
theorem new_t (G : Mem) (s : ByteArray) : Trip Tryd.prog G 50 #[.string s] [] (fun v m =>
    ∃ b, v = .iface 122 (.pointer (some ⟨b, 0, none⟩)) ∧ m = [(b, listB [.string s] 124)]) := by
  refine Trip_of Tryd.func50 rfl (by show 1 ≤ _; decide) (args := [.string s]) fun c h0 hex => ?_
  refine run _ ?_
  refine ro_build1 (vs := [.string s]) rfl rfl z124 rfl rfl rfl rfl ?_
  refine runO _ ?_
  refine ro_box (by conv => lhs; whnf) rfl rfl hex fun b hb => ?_
  refine runO _ ?_
  refine run _ ?_
  refine J_ret ?_
  exact ends_ret [2] rfl (post := [(b, listB [.string s] 124)]) (junk := []) (.refl _) ⟨b, rfl, rfl⟩

/-- wrapError, of an error other than io.EOF -/
theorem wrapError_z (G : Mem) (S : Sent G) (rb : Nat) (RB : Blk) (x off : Int) (hn : 6 < RB.n) (hx : RB.g 6 = .int .i64 x) (b o : Nat) (dm : Mem) (B : Blk) (hB : (b, B) ∈ dm ++ G) (hf : B.fr = (0, 0)) (hne : (((rb, RB) :: dm ++ G).map (·.1)).Nodup → b ≠ S.eb ∨ o ≠ S.eo) :
    Trip Tryd.prog G 37 #[.pointer (some ⟨rb, 0, none⟩), .int .i64 off, .iface 122 (.pointer (some ⟨b, o, none⟩))] ((rb, RB) :: dm) (fun v m =>
      ErrV S .z v ∧ m = (rb, RB) :: dm) := by
  refine Trip_of Tryd.func37 rfl (by show 3 ≤ _; decide) (args := [.pointer (some ⟨rb, 0, none⟩), .int .i64 off, .iface 122 (.pointer (some ⟨b, o, none⟩))]) fun c h0 hex => ?_
  refine J_nodup fun hnd => ?_
  have hne := hne hnd
  obtain ⟨i, hi, hc⟩ := ptrInfo
  refine run _ ?_
  refine ro_loadA rfl rfl (by simp [S.e0]) S.e0n S.e0g rfl ?_
  refine runO _ ?_
  refine ro_eqPtrs (r := false) (B := B) (B' := S.E1) rfl rfl rfl rfl hi hc rfl ?_ rfl ?_
  · by_cases hb : b = S.eb
    · exact .inl ⟨hb, by have := hne.resolve_left (fun h => h hb); simp [this]⟩
    · exact .inr ⟨hb, rfl, by rcases List.mem_append.1 hB with h | h <;> simp [h], by simp [S.e1], hf, S.e1f⟩
  refine runO _ ?_
  refine run _ ?_
  refine ro_bin (op := .add) rfl rfl rfl rfl ?_
  refine runO _ ?_
  refine ro_build1 (vs := [.int .i64 (IntKind.i64.wrap (x + off)), .iface 122 (.pointer (some ⟨b, o, none⟩))]) rfl rfl z110 rfl rfl rfl rfl ?_
  refine runO _ ?_
  refine ro_box (by conv => lhs; whnf) rfl rfl hex fun b' hb' => ?_
  refine runO _ ?_
  refine run _ ?_
  refine J_ret ?_
  exact ends_retS [6] ⟨⟨b', rfl⟩, rfl⟩ rfl (swap1 _ _)

/-- wrapError, of io.EOF -/
theorem wrapError_eof (G : Mem) (S : Sent G) (rb : Nat) (off : Int) :
    Trip Tryd.prog G 37 #[.pointer (some ⟨rb, 0, none⟩), .int .i64 off, S.eofV] [] (fun v m => v = S.eofV ∧ m = []) := by
  refine Trip_of Tryd.func37 rfl (by show 3 ≤ _; decide) (args := [.pointer (some ⟨rb, 0, none⟩), .int .i64 off, S.eofV]) fun c h0 hex => ?_
  obtain ⟨i, hi, hc⟩ := ptrInfo
  refine run _ ?_
  refine ro_loadA rfl rfl (by simp [S.e0]) S.e0n S.e0g rfl ?_
  refine runO _ ?_
  refine ro_eqPtrs (r := true) (B := S.E1) (B' := S.E1) rfl rfl rfl rfl hi hc rfl (.inl ⟨rfl, by simp⟩) rfl ?_
  refine runO _ ?_
  refine run _ ?_
  refine J_ret ?_
  exact ends_ret [6] rfl (post := []) (junk := []) (.refl _) ⟨rfl, rfl⟩

/-- makeError -/
theorem makeError_t (G : Mem) (S : Sent G) (rb : Nat) (RB : Blk) (x off : Int) (s : ByteArray) (hn : 6 < RB.n) (hx : RB.g 6 = .int .i64 x) :
    Trip Tryd.prog G 40 #[.pointer (some ⟨rb, 0, none⟩), .int .i64 off, .string s] [(rb, RB)] (fun v m => ErrV S .z v ∧ m = [(rb, RB)]) := by
  refine Trip_of Tryd.func40 rfl (by show 3 ≤ _; decide) (args := [.pointer (some ⟨rb, 0, none⟩), .int .i64 off, .string s]) fun c h0 hex => ?_
  refine run _ ?_
  refine ro_callT (new_t G s) ?_
  rintro v m ⟨b, rfl, rfl⟩
  refine runO _ ?_
  refine ro_callT (wrapError_z G S rb RB x off hn hx b 0 [(b, listB [.string s] 124)] _ (by simp; exact .inl rfl) rfl ?_) ?_
  · intro hnd
    left
    intro he
    simp only [List.cons_append, List.nil_append, List.map_cons, List.nodup_cons, List.mem_cons, List.mem_map] at hnd
    exact hnd.2.1 ⟨_, S.e1, he.symm⟩
  rintro v m ⟨hv, rfl⟩
  obtain ⟨b', rfl⟩ := hv
  refine runO _ ?_
  refine run _ ?_
  refine J_ret ?_
  exact ends_retS [6] ⟨⟨b', rfl⟩, rfl⟩

/-- makeEOFError -/
theorem makeEOFError_t (G : Mem) (S : Sent G) (rb : Nat) (RB : Blk) (x off : Int) (hn : 6 < RB.n) (hx : RB.g 6 = .int .i64 x) :
    Trip Tryd.prog G 48 #[.pointer (some ⟨rb, 0, none⟩), .int .i64 off] [(rb, RB)] (fun v m => ErrV S .z v ∧ m = [(rb, RB)]) := by
  refine Trip_of Tryd.func48 rfl (by show 2 ≤ _; decide) (args := [.pointer (some ⟨rb, 0, none⟩), .int .i64 off]) fun c h0 hex => ?_
  refine run _ ?_
  refine ro_loadA rfl rfl (by simp [S.u0]) S.u0n S.u0g rfl ?_
  refine runO _ ?_
  refine ro_callT (wrapError_z G S rb RB x off hn hx S.ub S.uo [] S.U1 (by simp [S.u1]) S.u1f (fun _ => S.ne)) ?_
  rintro v m ⟨hv, rfl⟩
  obtain ⟨b', rfl⟩ := hv
  refine runO _ ?_
  refine run _ ?_
  refine J_ret ?_
  exact ends_ret [4] rfl (post := [(rb, RB)]) (junk := []) (.refl _) ⟨⟨b', rfl⟩, rfl⟩

/-- wrapNonEOFError, of io.EOF and of io.ErrUnexpectedEOF -/
theorem wrapNonEOF_t (G : Mem) (S : Sent G) (rb : Nat) (RB : Blk) (x off : Int) (e : EV) (v : Value) (he : e = .eof ∨ e = .ueof) (hv : ErrV S e v) (hn : 6 < RB.n) (hx : RB.g 6 = .int .i64 x) :
    Trip Tryd.prog G 41 #[.pointer (some ⟨rb, 0, none⟩), .int .i64 off, v] [(rb, RB)] (fun v m => ErrV S .z v ∧ m = [(rb, RB)]) := by
  refine Trip_of Tryd.func41 rfl (by show 3 ≤ _; decide) (args := [.pointer (some ⟨rb, 0, none⟩), .int .i64 off, v]) fun c h0 hex => ?_
  obtain ⟨i, hi, hc⟩ := ptrInfo
  rcases he with rfl | rfl <;> cases hv
  · refine run _ ?_
    refine ro_loadA rfl rfl (by simp [S.e0]) S.e0n S.e0g rfl ?_
    refine runO _ ?_
    refine ro_eqPtrs (r := true) (B := S.E1) (B' := S.E1) rfl rfl rfl rfl hi hc rfl (.inl ⟨rfl, by simp⟩) rfl ?_
    refine runO _ ?_
    refine run _ ?_
    refine ro_loadA rfl rfl (by simp [S.u0]) S.u0n S.u0g rfl ?_
    refine runO _ ?_
    refine run _ ?_
    refine ro_callT (wrapError_z G S rb RB x off hn hx S.ub S.uo [] S.U1 (by simp [S.u1]) S.u1f (fun _ => S.ne)) ?_
    rintro v m ⟨hv, rfl⟩
    obtain ⟨b', rfl⟩ := hv
    refine runO _ ?_
    refine run _ ?_
    refine J_ret ?_
    exact ends_ret [6] rfl (post := [(rb, RB)]) (junk := []) (.refl _) ⟨⟨b', rfl⟩, rfl⟩
  · refine run _ ?_
    refine ro_loadA rfl rfl (by simp [S.e0]) S.e0n S.e0g rfl ?_
    refine runO _ ?_
    refine ro_eqPtrs (r := false) (B := S.U1) (B' := S.E1) rfl rfl rfl rfl hi hc rfl ?_ rfl ?_
    · by_cases hb : S.ub = S.eb
      · exact .inl ⟨hb, by have := S.ne.resolve_left (fun h => h hb); simp [this]⟩
      · exact .inr ⟨hb, rfl, by simp [S.u1], by simp [S.e1], S.u1f, S.e1f⟩
    refine runO _ ?_
    refine run _ ?_
    refine ro_callT (wrapError_z G S rb RB x off hn hx S.ub S.uo [] S.U1 (by simp [S.u1]) S.u1f (fun _ => S.ne)) ?_
    rintro v m ⟨hv, rfl⟩
    obtain ⟨b', rfl⟩ := hv
    refine runO _ ?_
    refine run _ ?_
    refine J_ret ?_
    exact ends_ret [6] rfl (post := [(rb, RB)]) (junk := []) (.refl _) ⟨⟨b', rfl⟩, rfl⟩

end Go.Proofs.YtogmacnlpclgkaaDoor
