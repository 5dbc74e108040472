/-
  AN ENGINE OF WALKS, PART 17: views: slices of bytes that are only read.
-/
import Derived.Test.YtogmacnlpclgkaaDoorEngG
namespace Go.Eng
open Go

/-- A slice of bytes that is only read: n bytes, the i-th one x i. -/
structure View (M : Mem) (oa : Option Addr) (n cp : Nat) (x : Nat → Nat) : Prop where
  le : n ≤ cp
  is : (oa = none ∧ n = 0 ∧ cp = 0) ∨ ∃ b o B, oa = some ⟨b, o, none⟩ ∧ (b, B) ∈ M ∧ (0 < n → o + n ≤ B.n) ∧ ∀ i, i < n → B.g (o + i) = .int .u8 (x i)
/-- The place of a part of it. -/
def subA (oa : Option Addr) (l cap : Nat) : Option Addr := match oa with
  | none => none
  | some ⟨b, o, s⟩ => some ⟨b, sOff o l 1 cap, s⟩
theorem View.sub {M : Mem} {oa : Option Addr} {n cp : Nat} {x : Nat → Nat} (v : View M oa n cp x) {l h : Nat} (hlh : l ≤ h) (hn : h ≤ n) : View M (subA oa l cp) (h - l) (cp - l) (fun i => x (l + i)) := by
  obtain ⟨hle, hv⟩ := v
  rcases hv with ⟨rfl, h1, h2⟩ | ⟨b, o, B, rfl, hm, hf, hg⟩
  · exact ⟨by omega, .inl ⟨rfl, by omega, by omega⟩⟩
  · refine ⟨by omega, .inr ⟨b, sOff o l 1 cp, B, rfl, hm, ?_, fun i hi => ?_⟩⟩
    · intro h0; have := hf (by omega); unfold sOff; split <;> omega
    · have : sOff o l 1 cp = o + l := by unfold sOff; rw [if_neg (by omega)]; omega
      rw [this, Nat.add_assoc]; exact hg _ (by omega)
theorem View.cut {M : Mem} {oa : Option Addr} {n cp : Nat} {x : Nat → Nat} (v : View M oa n cp x) {h : Nat} (hn : h ≤ n) : View M oa h cp x := by
  obtain ⟨hle, hv⟩ := v
  rcases hv with ⟨rfl, h1, h2⟩ | ⟨b, o, B, rfl, hm, hf, hg⟩
  · exact ⟨by omega, .inl ⟨rfl, by omega, by omega⟩⟩
  · exact ⟨by omega, .inr ⟨b, o, B, rfl, hm, fun h0 => by have := hf (by omega); omega, fun i hi => hg i (by omega)⟩⟩
theorem View.some {M : Mem} {oa : Option Addr} {n cp : Nat} {x : Nat → Nat} (v : View M oa n cp x) (h : 0 < n) : ∃ b o, oa = .some ⟨b, o, none⟩ := by
  rcases v.is with ⟨_, h1, _⟩ | ⟨b, o, B, h1, _⟩
  · omega
  · exact ⟨b, o, h1⟩
theorem View.congr {M : Mem} {oa : Option Addr} {n cp : Nat} {x y : Nat → Nat} (v : View M oa n cp x) (h : ∀ i, i < n → x i = y i) : View M oa n cp y := by
  obtain ⟨hle, hv⟩ := v
  rcases hv with ⟨rfl, h1, h2⟩ | ⟨b, o, B, rfl, hm, hf, hg⟩
  · exact ⟨by omega, .inl ⟨rfl, by omega, by omega⟩⟩
  · exact ⟨by omega, .inr ⟨b, o, B, rfl, hm, hf, fun i hi => (hg i hi).trans (by rw [h i hi])⟩⟩
theorem View.mono {M M' : Mem} {oa : Option Addr} {n cp : Nat} {x : Nat → Nat} (v : View M oa n cp x) (h : ∀ p ∈ M, p ∈ M') : View M' oa n cp x := by
  obtain ⟨hle, hv⟩ := v
  rcases hv with h1 | ⟨b, o, B, h1, hm, h2⟩
  · exact ⟨hle, .inl h1⟩
  · exact ⟨hle, .inr ⟨b, o, B, h1, h _ hm, h2⟩⟩

/-- .. as what is appended or copied. -/
theorem View.src {M : Mem} {oa : Option Addr} {n cp : Nat} {x : Nat → Nat} (v : View M oa n cp x) : ∃ src, Src M 1 (.slice oa n cp) n src ∧ ∀ i, i < n → src i = .int .u8 (x i) := by
  obtain ⟨hle, hv⟩ := v
  by_cases h0 : n = 0
  · subst h0
    exact ⟨fun _ => undef, .inr ⟨rfl, oa, cp, rfl⟩, fun i hi => by omega⟩
  · rcases hv with ⟨rfl, h1, h2⟩ | ⟨b, o, B, rfl, hm, hf, hg⟩
    · omega
    · exact ⟨fun j => B.g (o + j), .inl ⟨b, o, cp, B, rfl, hm, by have := hf (by omega); omega, rfl⟩, hg⟩
theorem View.add {M m : Mem} {oa : Option Addr} {n cp : Nat} {x : Nat → Nat} (v : View M oa n cp x) : View (m ++ M) oa n cp x := v.mono fun p hp => List.mem_append.2 (.inr hp)

section
variable {P : Program} [ty : TyC P] {G : Mem} {qs : List FuncId} {c : World} {n : Nat} {h0 : Base} {ops : Array Oper} {Q : Fr → Mem → Prop} {rest : List Oper} {f : Fr} {m : Mem}
variable {d : Option Tmp} {T T' tt : TypeId} {pos : String} {aft : Array Edge}

/-- A part of a view. -/
theorem ro_slV (l h : Nat) {M : Mem} {N cp : Nat} {z : Nat → Nat} {x : Operand} {lo hi : Option Operand} {oa : Option Addr} {e : Nat} {L H : Int} (hv : View M oa N cp z) (hx : ev f x = .slice oa N cp) (hT : TyC.tk P T = .sl e) (hs : TyC.sz P e = 1)
    (hl : optInt f lo 0 = some L) (hh : optInt f hi N = some H) (hL : L = (l : Int)) (hH : H = (h : Int)) (h1 : l ≤ h) (h2 : h ≤ cp) (hd : dstOk n d = true)
    (hk : RO P G qs c n h0 ops Q rest (updo f d (.slice (subA oa l cp) (h - l) (cp - l))) m) :
    RO P G qs c n h0 ops Q (⟨d, .slice T x lo hi none, tt, pos, aft, none⟩ :: rest) f m := by
  subst hL hH
  rcases hv.is with ⟨rfl, h3, h4⟩ | ⟨b, o, B, rfl, hm, hf, hg⟩
  · obtain rfl : N = 0 := h3
    obtain rfl : cp = 0 := h4
    obtain rfl : h = 0 := by omega
    obtain rfl : l = 0 := by omega
    exact ro_sliceNil (s := 0) hx hT hs hl hh hd hk
  · refine ro_slice (s := 0) hx hT hs hl hh (by omega) (by omega) (by omega) hd ?_
    simpa [subA] using hk
/-- .. from its begin on. -/
theorem ro_slVT (h : Nat) {M : Mem} {N cp : Nat} {z : Nat → Nat} {x : Operand} {hi : Option Operand} {oa : Option Addr} {e : Nat} {H : Int} (hv : View M oa N cp z) (hx : ev f x = .slice oa N cp) (hT : TyC.tk P T = .sl e) (hs : TyC.sz P e = 1)
    (hh : optInt f hi N = some H) (hH : H = (h : Int)) (h2 : h ≤ cp) (hd : dstOk n d = true)
    (hk : RO P G qs c n h0 ops Q rest (updo f d (.slice oa h cp)) m) :
    RO P G qs c n h0 ops Q (⟨d, .slice T x none hi none, tt, pos, aft, none⟩ :: rest) f m := by
  refine ro_slV 0 h hv hx hT hs (lo := none) rfl hh rfl hH (by omega) h2 hd ?_
  have : subA oa 0 cp = oa := by
    unfold subA
    split
    · rfl
    · rename_i b o s; unfold sOff; split <;> simp
  rw [this, Nat.sub_zero, Nat.sub_zero]
  exact hk
/-- A byte of a view. -/
theorem ro_loadV {x : Operand} {b o i N cp : Nat} {z : Nat → Nat} (hx : ev f x = .pointer (some ⟨b, o + i, none⟩)) (hT : oneTk (TyC.tk P T) = true) (hv : View G (some ⟨b, o, none⟩) N cp z) (hn : i < N) (hd : dstOk n d = true)
    (h : RO P G qs c n h0 ops Q rest (updo f d (.int .u8 ((z i : Nat) : Int))) m) : RO P G qs c n h0 ops Q (⟨d, .load T x, tt, pos, aft, none⟩ :: rest) f m := by
  rcases hv.is with ⟨h1, _⟩ | ⟨b', o', B, h1, hm, hf, hg⟩
  · cases h1
  · cases h1
    exact ro_loadA hx hT (List.mem_append.2 (.inr hm)) (by have := hf (by omega); omega) (hg i hn) hd h
end
end Go.Eng
