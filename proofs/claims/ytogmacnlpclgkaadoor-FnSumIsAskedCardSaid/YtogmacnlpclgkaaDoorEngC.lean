/-
  AN ENGINE OF WALKS, PART 12: scopes with a label; slices written out; clear; methods of interface values; results in cells.
-/
import Derived.Test.YtogmacnlpclgkaaDoorEngB
import Derived.ScopeJumps
namespace Go.Eng
open Go

section
variable {P : Program} {G : Mem} {c : World} {n : Nat} {h0 : Base} {Q : Exit → Fr → Mem → Prop} {f : Fr} {m : Mem}

def jumpQ (l : Nat) (K : Fr → Mem → Prop) (Q : Exit → Fr → Mem → Prop) : Exit → Fr → Mem → Prop
  | .goto l', f, m => l' = l ∧ K f m
  | e, f, m => Q e f m

/-- A scope whose code begins with label l: I holds whenever what is behind it begins. -/
theorem J_scope {rest : Code} (l : Nat) (I : Nat → Fr → Mem → Prop) {k0 : Nat} (hI : I k0 f m)
    (pass : ∀ k f m, I k f m → J P G c n h0 rest (jumpQ l (fun f' m' => ∃ k', k' < k ∧ I k' f' m') Q) f m) : J P G c n h0 (.scope (.seq (.label l) rest)) Q f m := by
  intro a w hp r hc o b k cs
  let C := Code.seq (.label l) rest
  have hg : gotoIn l (.inScope C :: k) = some (.code (.seq .skip rest) :: .inScope C :: k) := by simp [gotoIn, C, findLabel]
  have key : ∀ K, ∀ f m a w hp, Rep n a f → At c hp w → Own h0 G m hp → I K f m →
      ∃ e a' w', liftQ G c n h0 Q e a' w' ∧ Arrives P (lone (b.at a (.code rest :: .inScope C :: k)) cs w) b k cs e a' w' := by
    intro K
    induction K using Nat.strongRecOn with
    | _ K ih =>
      intro f m a w hp r hc o hI
      obtain ⟨e, a₁, w₁, ⟨f', m', h', r', hc', o', q⟩, harr⟩ := pass K f m hI a w hp r hc o b (.inScope C :: k) cs
      cases e with
      | normal => exact ⟨.normal, a₁, w₁, ⟨f', m', h', r', hc', o', q⟩, Steps.trans harr (.one step_inScope)⟩
      | exit id => exact ⟨.exit id, a₁, w₁, ⟨f', m', h', r', hc', o', q⟩, fun k' hk => harr k' (by simp [exitTo, hk])⟩
      | goto l' =>
        obtain ⟨rfl, K', hlt, hI'⟩ := q
        obtain ⟨e₂, a₂, w₂, hq₂, harr₂⟩ := ih K' hlt f' m' a₁ w₁ h' r' hc' o' hI'
        have hsk : Steps P (lone (b.at a₁ (.code (.seq .skip rest) :: .inScope C :: k)) cs w₁) (lone (b.at a₁ (.code rest :: .inScope C :: k)) cs w₁) :=
          .head step_seq (.one step_skip)
        exact ⟨e₂, a₂, w₂, hq₂, .of_steps (Steps.trans (harr _ hg) hsk) harr₂⟩
      | ret => exact ⟨_, a₁, w₁, ⟨f', m', h', r', hc', o', q⟩, harr⟩
      | panic ch => exact ⟨_, a₁, w₁, ⟨f', m', h', r', hc', o', q⟩, harr⟩
      | outgrown => exact ⟨_, a₁, w₁, ⟨f', m', h', r', hc', o', q⟩, harr⟩
  obtain ⟨e₂, a₂, w₂, hq₂, harr₂⟩ := key k0 f m a w hp r hc o hI
  exact ⟨e₂, a₂, w₂, hq₂, .of_steps (.head step_scope (.head step_seq (.one step_label))) harr₂⟩

/-- .. with a state: its slots, its blocks, what holds of it, its measure. -/
theorem J_scopeS {σ : Type} {rest : Code} (l : Nat) (slots : σ → List (Nat × Value)) (mem : σ → Mem) (inv : σ → Prop) (meas : σ → Nat) (s0 : σ) (hf : slotsOk f (slots s0)) (hm : MEqv m (mem s0)) (hi : inv s0)
    (pass : ∀ s f, inv s → J P G c n h0 rest (jumpQ l (fun f' m' => ∃ s', meas s' < meas s ∧ inv s' ∧ slotsOk f' (slots s') ∧ MEqv m' (mem s')) Q) (setL f (slots s)) (mem s)) :
    J P G c n h0 (.scope (.seq (.label l) rest)) Q f m := by
  refine J_scope l (fun k f m => ∃ s, k = meas s ∧ inv s ∧ slotsOk f (slots s) ∧ MEqv m (mem s)) (k0 := meas s0) ⟨s0, rfl, hi, hf, hm⟩ ?_
  rintro k f m ⟨s, rfl, hi, hs, hm⟩
  have h1 := pass s f hi
  rw [setL_of hs] at h1
  refine J_eqv hm (J_mono h1 ?_)
  intro e f' m' h
  cases e <;> first | exact h | skip
  obtain ⟨rfl, s', h1, h2, h3, h4⟩ := h
  exact ⟨rfl, meas s', h1, s', rfl, h2, h3, h4⟩

end
end Go.Eng
