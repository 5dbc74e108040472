/-
  TEXTS MERGED: Eng1.
-/
import Derived.Orders
import Derived.Tactics
/-! AN ENGINE OF WALKS, PART 1: REGIONS IN ONE ORDER. A region whose order is open is walked once, in one order that a checker has looked at: an operation that only reckons may come first wherever its slots are its own; one that reads memory, where all that may run ahead of it only reads, too; one that writes, where it alone is ready. -/
namespace Go.Eng
open Go

abbrev Heap := Array Obj

/-- The world w has the heap h, and is as the world c besides, but for the count of draws. -/
def At (c : World) (h : Heap) (w : World) : Prop := w.heap = h ∧ w.tape = c.tape ∧ w.os = c.os ∧ w.output = c.output

theorem At.self (w : World) : At w w.heap w := ⟨rfl, rfl, rfl, rfl⟩
theorem At.drew {c : World} {h : Heap} {w : World} (a : At c h w) (k : Nat) : At c h { w with drawn := k } := ⟨a.1, a.2.1, a.2.2.1, a.2.2.2⟩

/-- 0: it only reckons; 1: it reads memory, too (or calls a function of the list); 2: anything. -/
def cls (qs : List FuncId) : Op → Nat
  | .move _ | .assign _ | .pick .. | .nilCheck _ | .unOp .. | .makeInterface .. | .makeFunc .. | .slice .. | .fieldAddr .. | .field ..
  | .indexAddr .. | .index .. | .extract .. | .build .. | .typeAssert .. => 0
  | .convert s d _ => if qs.contains (1000000 + 1000 * s + d) then 1 else 0
  | .binOp .eql .. | .binOp .neq .. => 1
  | .binOp .. => 0
  | .load .. => 1
  | .alloc _ | .box .. | .buildSlice .. | .makeSlice .. => 3
  | .call c => match c.callee with
    | .builtin .len | .builtin .cap | .builtin .min | .builtin .max => 0
    | .value (.func f) => if qs.contains f then 1 else 2
    | _ => 2
  | _ => 2

section
variable {P : Program} {ops : Array Oper} {c : World} {qs : List FuncId} {X : Heap → Heap → Prop}

/-- Whatever the world, as long as its heap is h: the operation yields v, and the heap is h again. -/
def YieldsH (P : Program) (ops : Array Oper) (c : World) (h : Heap) (o : Oper) (v : Value) (a : Act) : Prop :=
  (Region.wanted o (yielded ops a.tmps) = true ∧ ∀ w, At c h w → ∃ w', At c h w' ∧
    ((execOp a.eval o).run P w = .ok (.value v) w' ∨ ∃ f args, (execOp a.eval o).run P w = .ok (.enter f args) w' ∧ Calls P f args w' (fun e w'' => e = .returned v ∧ At c h w''))) ∨
  (Region.wanted o (yielded ops a.tmps) = false ∧ v = undef)

theorem YieldsH.of_same {h : Heap} {o : Oper} {v : Value} {a a' : Act} (hy : YieldsH P ops c h o v a) (he : execOp a'.eval o = execOp a.eval o)
    (hw : Region.wanted o (yielded ops a'.tmps) = Region.wanted o (yielded ops a.tmps)) : YieldsH P ops c h o v a' := by
  unfold YieldsH at *; rw [he, hw]; exact hy

theorem YieldsH.of_yields {h : Heap} {o : Oper} {v : Value} {a : Act} (hy : Yields P ops o v a) : YieldsH P ops c h o v a := by
  rcases hy with ⟨hw, hv⟩ | ⟨hw, rfl⟩
  · exact .inl ⟨hw, fun w hc => ⟨w, hc, .inl (hv w)⟩⟩
  · exact .inr ⟨hw, rfl⟩

/-- No way out but the normal one. -/
def noWay : Exit → Act → World → Prop := fun _ _ _ => False

def stH (P : Program) (ops : Array Oper) (c : World) (h : Heap) (i : Nat) (K : Act → Prop) (a : Act) : Prop :=
  ∃ o, ops[i]? = some o ∧ ∃ v, YieldsH P ops c h o v a ∧ K (a.put o.dst v)

/-- Every order, with the heap beside the frame. -/
def wpAnyC (P : Program) (ops : Array Oper) (c : World) (qs : List FuncId) (X : Heap → Heap → Prop) (QN : Act → Heap → Prop) : Nat → Array Bool → Act → Heap → Prop
  | 0, listed, a, h => Region.ready .any ops listed = [] ∧ QN a h
  | fuel + 1, listed, a, h =>
    (Region.ready .any ops listed = [] → QN a h) ∧
    ∀ i ∈ Region.ready .any ops listed, ∀ o, ops[i]? = some o →
      if cls qs o.op ≤ 1 then stH P ops c h i (fun a' => wpAnyC P ops c qs X QN fuel (listed.setIfInBounds i true) a' h) a
      else ∀ w, At c h w → wpOp P ops noWay i (fun a' w' => ∃ h', At c h' w' ∧ (cls qs o.op = 3 → X h h') ∧ wpAnyC P ops c qs X QN fuel (listed.setIfInBounds i true) a' h') a w

theorem Oper.wp_noWay {o : Oper} {a : Act} {w : World} {K : Act → World → Prop} {Q : Exit → Act → World → Prop} (hh : o.wp P a w K noWay) : o.wp P a w K Q := by
  unfold Oper.wp at *
  generalize (execOp a.eval o).run P w = r at *
  cases r with
  | ok n w' =>
    cases n <;> simp only [Oper.upon] at hh ⊢ <;>
      first
        | exact hh
        | exact Calls.mono hh (fun e w'' he => by cases e <;> first | exact he | exact he.elim | (obtain ⟨_, _, he⟩ := he; exact he.elim))
  | halt x w' => cases x <;> simp only [Oper.upon] at hh ⊢ <;> first | exact hh.elim | exact hh

theorem wpOp_noWay {i : Nat} {a : Act} {w : World} {K : Act → World → Prop} {Q : Exit → Act → World → Prop} (hh : wpOp P ops noWay i K a w) : wpOp P ops Q i K a w := by
  unfold wpOp at *
  split
  · simpa [*] using hh
  · rename_i o ho
    simp only [ho] at hh
    split
    · rename_i hw
      simp only [hw, if_true] at hh
      rcases hh with hh | ⟨_, _, _, hh⟩
      · exact .inl (Oper.wp_noWay hh)
      · exact hh.elim
    · rename_i hw; simp only [hw] at hh; exact hh

theorem wpOp_of_stH {h : Heap} {i : Nat} {a : Act} {w : World} {K : Act → Prop} {K' : Act → World → Prop} {Q : Exit → Act → World → Prop}
    (hc : At c h w) (hk : ∀ a w, At c h w → K a → K' a w) (hh : stH P ops c h i K a) : wpOp P ops Q i K' a w := by
  obtain ⟨o, ho, v, hy, hK⟩ := hh
  unfold wpOp
  simp only [ho]
  rcases hy with ⟨hw, hy⟩ | ⟨hw, rfl⟩
  · simp only [hw, if_true]
    refine .inl ?_
    unfold Oper.wp
    obtain ⟨w', hc', hr | ⟨f, args, hr, hcall⟩⟩ := hy w hc
    · rw [hr]; exact hk _ _ hc' hK
    · rw [hr]
      refine Calls.mono hcall fun e w'' ⟨he, hc''⟩ => ?_
      subst he
      exact hk _ _ hc'' hK
  · simp only [hw, Bool.false_eq_true, if_false]
    exact hk _ _ hc hK

theorem wpAny_of_C {QN : Act → Heap → Prop} {Q : Exit → Act → World → Prop} (hQ : ∀ a h w, At c h w → QN a h → Q .normal a w) :
    ∀ (fuel : Nat) (listed : Array Bool) (a : Act) (h : Heap) (w : World), At c h w → wpAnyC P ops c qs X QN fuel listed a h → wpAny P .any ops Q fuel listed a w
  | 0, _, _, _, _, hc, hh => ⟨hh.1, hQ _ _ _ hc hh.2⟩
  | fuel + 1, listed, a, h, w, hc, hh => by
    refine ⟨fun h0 => hQ _ _ _ hc (hh.1 h0), fun i hi => ?_⟩
    obtain ⟨_, o, ho, _⟩ := mem_ready.1 hi
    have h1 := hh.2 i hi o ho
    split at h1
    · exact wpOp_of_stH hc (fun a' w' hc' h' => wpAny_of_C hQ fuel _ a' h w' hc' h') h1
    · exact wpOp_noWay (wpOp_mono (fun a' w' ⟨h', hc', _, h2⟩ => wpAny_of_C hQ fuel _ a' h' w' hc' h2) (h1 w hc))

/-- Another operation j, run ahead of i, where i yields v whenever it is run. -/
theorem stH_put {h : Heap} {j : Nat} {oi oj : Oper} {v : Value} (hj : ops[j]? = some oj) (hap : oi.apart ops oj = true)
    (hsi : ∀ cs b, oi.op ≠ .select cs b) (hsj : ∀ cs b, oj.op ≠ .select cs b) {Y : Act → Prop}
    (hY : ∀ a a', Y a → execOp a'.eval oi = execOp a.eval oi → Region.wanted oi (yielded ops a'.tmps) = Region.wanted oi (yielded ops a.tmps) → Y a') {K : Act → Prop} {a : Act}
    (hy : Y a) (hh : stH P ops c h j K (a.put oi.dst v)) :
    stH P ops c h j (fun a' => Y a' ∧ K (a'.put oi.dst v)) a := by
  obtain ⟨h1, h2, h3⟩ := Oper.apart_spec hap
  obtain ⟨o, ho, u, hyu, hK⟩ := hh
  have : o = oj := Option.some.inj (ho.symm.trans hj)
  subst this
  refine ⟨o, ho, u, hyu.of_same (execOp_put o hsj a oi.dst v h1).symm (wanted_put o a oi.dst v h1).symm, ?_, ?_⟩
  · exact hY a _ hy (execOp_put oi hsi a o.dst u h3) (wanted_put oi a o.dst u h3)
  · rw [← Act.put_comm a v u h2]; exact hK

theorem ready_not_listed {i : Nat} {listed : Array Bool} (hr : i ∈ Region.ready .any ops listed) : listed.getD i false = false := by
  have h0 := (mem_ready.1 hr).1
  rcases Nat.lt_or_ge i listed.size with h' | h'
  · simp [h'] at h0 ⊢; exact h0
  · simp [Array.getElem?_eq_none h']

/-- One that only reckons may go first. -/
theorem firstPure {QN : Act → Heap → Prop} {i : Nat} {oi : Oper} {v : Value} (hi : ops[i]? = some oi) (hsel : Region.noSelect ops = true) (hcls : cls qs oi.op ≤ 1) :
    ∀ (fuel : Nat) (listed : Array Bool) (a : Act) (h : Heap),
      (∀ j oj, ops[j]? = some oj → j ≠ i → listed.getD j true = false → (∀ e ∈ oj.after, Region.binds .any e = true → e.on ≠ i) → oi.apart ops oj = true) →
      i ∈ Region.ready .any ops listed → Yields P ops oi v a →
      wpAnyC P ops c qs X QN fuel (listed.setIfInBounds i true) (a.put oi.dst v) h → wpAnyC P ops c qs X QN (fuel + 1) listed a h := by
  have hsel' := Region.noSelect_spec hsel
  intro fuel
  induction fuel with
  | zero =>
    intro listed a h _ hr hy H
    refine ⟨fun h => (by rw [h] at hr; cases hr), fun j hj oj hoj => ?_⟩
    by_cases hji : j = i
    · subst hji
      have : oj = oi := Option.some.inj (hoj.symm.trans hi)
      subst this
      rw [if_pos hcls]
      exact ⟨oj, hoj, v, .of_yields hy, H⟩
    · have := ready_mono hj hji
      rw [H.1] at this
      cases this
  | succ fuel ih =>
    intro listed a h hfree hr hy H
    refine ⟨fun h => (by rw [h] at hr; cases hr), fun j hj oj hoj => ?_⟩
    by_cases hji : j = i
    · subst hji
      have : oj = oi := Option.some.inj (hoj.symm.trans hi)
      subst this
      rw [if_pos hcls]
      exact ⟨oj, hoj, v, .of_yields hy, H⟩
    · have h1 := H.2 j (ready_mono hj hji) oj hoj
      obtain ⟨hjun, oj', hoj', hall⟩ := mem_ready.1 hj
      have : oj' = oj := Option.some.inj (hoj'.symm.trans hoj)
      subst this
      have hnot : ∀ e ∈ oj'.after, Region.binds .any e = true → e.on ≠ i := fun e he hb heq => by
        have h2 := hall e he hb
        rw [heq, ready_not_listed hr] at h2
        cases h2
      have hap := hfree j oj' hoj hji hjun hnot
      have hfree' : ∀ k ok, ops[k]? = some ok → k ≠ i → (listed.setIfInBounds j true).getD k true = false →
          (∀ e ∈ ok.after, Region.binds .any e = true → e.on ≠ i) → oi.apart ops ok = true := fun k ok hk hki hun hno => by
        refine hfree k ok hk hki ?_ hno
        by_cases hjk : j = k
        · subst hjk; exact hjun
        · rw [getD_set_ne true hjk] at hun; exact hun
      rw [Array.setIfInBounds_comm _ _ (Ne.symm hji)] at h1
      split
      · rename_i hc1
        rw [if_pos hc1] at h1
        have h2 := stH_put hoj hap (fun cs b => hsel' i oi cs b hi) (fun cs b => hsel' j oj' cs b hoj) (Y := Yields P ops oi v) (fun a a' y e w => y.of_same e w) hy h1
        obtain ⟨o, ho, u, hyu, hyi, hK⟩ := h2
        exact ⟨o, ho, u, hyu, ih _ _ h hfree' (ready_mono hr (Ne.symm hji)) hyi hK⟩
      · rename_i hc1
        rw [if_neg hc1] at h1
        intro w hc
        refine wpOp_mono (fun a' w' h3 => ?_) (wpOp_put hoj hap (fun cs b => hsel' i oi cs b hi) (fun cs b => hsel' j oj' cs b hoj) (fun _ _ _ h => h) hy (h1 w hc))
        obtain ⟨hyi, h', hc', hx, hK⟩ := h3
        exact ⟨h', hc', hx, ih _ _ h' hfree' (ready_mono hr (Ne.symm hji)) hyi hK⟩

/-- What only makes new blocks yields a value, if it ends at all. -/
theorem cls3_value {ρ : Operand → Value} {o : Oper} {w w' : World} {n : Next} (h3 : cls qs o.op = 3) (hr : (execOp ρ o).run P w = .ok n w') : ∃ v, n = .value v := by
  obtain ⟨d, op, tt, pos, aft, g⟩ := o
  simp only at h3
  have key : ∀ {s : Sem Value}, ((do pure (.value (← s)) : Sem Next).run P w = .ok n w') → ∃ v, n = .value v := by
    intro s hs
    rw [Sem.run_bind] at hs
    cases hq : s.run P w with
    | ok v w1 =>
      rw [hq] at hs
      simp only [Result.andThen_ok, Sem.run_pure, Result.ok.injEq] at hs
      exact ⟨v, hs.1.symm⟩
    | halt x w1 => rw [hq] at hs; cases hs
  unfold cls at h3
  split at h3 <;> first | (cases h3; done) | skip
  all_goals first
    | exact key hr
    | (split at h3 <;> first | (cases h3; done) | (split at h3 <;> cases h3))

theorem wpOp_putY {j : Nat} {oi oj : Oper} {v : Value} (h3c : cls qs oj.op = 3) (hj : ops[j]? = some oj) (hap : oi.apart ops oj = true)
    (hsi : ∀ cs b, oi.op ≠ .select cs b) (hsj : ∀ cs b, oj.op ≠ .select cs b) {Y : Act → Prop}
    (hY : ∀ a a', Y a → execOp a'.eval oi = execOp a.eval oi → Region.wanted oi (yielded ops a'.tmps) = Region.wanted oi (yielded ops a.tmps) → Y a') {K : Act → World → Prop} {a : Act} {w : World}
    (hy : Y a) (h : wpOp P ops noWay j K (a.put oi.dst v) w) :
    wpOp P ops noWay j (fun a' w' => Y a' ∧ K (a'.put oi.dst v) w') a w := by
  obtain ⟨h1, h2, h3⟩ := Oper.apart_spec hap
  have keep : ∀ u, Y (a.put oj.dst u) := fun u => hY a _ hy (execOp_put oi hsi a oj.dst u h3) (wanted_put oi a oj.dst u h3)
  unfold wpOp at h ⊢
  simp only [hj] at h ⊢
  rw [wanted_put oj a oi.dst v h1] at h
  cases hw : Region.wanted oj (yielded ops a.tmps) with
  | false =>
    rw [hw] at h
    simp only [Bool.false_eq_true, if_false] at h ⊢
    exact ⟨keep _, by rw [← Act.put_comm a v undef h2]; exact h⟩
  | true =>
    rw [hw] at h
    simp only [if_true] at h ⊢
    rcases h with h | ⟨_, _, _, h⟩
    · refine .inl ?_
      unfold Oper.wp at h ⊢
      rw [execOp_put oj hsj a oi.dst v h1] at h
      cases hr : (execOp a.eval oj).run P w with
      | ok n w' =>
        obtain ⟨u, rfl⟩ := cls3_value h3c hr
        rw [hr] at h
        exact ⟨keep u, by rw [← Act.put_comm a v u h2]; exact h⟩
      | halt x w' =>
        rw [hr] at h
        cases x <;> simp only [Oper.upon] at h ⊢ <;> first | exact h.elim | exact h
    · exact h.elim

/-- One that reads may go first, where all that can run ahead of it (the set S, closed under 'is ready without i') reads at most, or makes new blocks at most. -/
theorem firstRead (hXr : ∀ h, X h h) (hXt : ∀ h h' h'', X h h' → X h' h'' → X h h'') {QN : Act → Heap → Prop} {i : Nat} {oi : Oper} {v : Value} (hi : ops[i]? = some oi) (hsel : Region.noSelect ops = true) (hcls : cls qs oi.op ≤ 1)
    {S : Nat → Bool} (hclosed : ∀ j oj, ops[j]? = some oj → j ≠ i → (∀ e ∈ oj.after, Region.binds .any e = true → S e.on = true) → S j = true) :
    ∀ (fuel : Nat) (listed : Array Bool) (a : Act) (h : Heap),
      (∀ j, listed.getD j false = true → S j = true) →
      (∀ j oj, ops[j]? = some oj → S j = true → j ≠ i → listed.getD j true = false → (cls qs oj.op ≤ 1 ∨ cls qs oj.op = 3) ∧ oi.apart ops oj = true) →
      i ∈ Region.ready .any ops listed → (∀ h', X h h' → YieldsH P ops c h' oi v a) →
      wpAnyC P ops c qs X QN fuel (listed.setIfInBounds i true) (a.put oi.dst v) h → wpAnyC P ops c qs X QN (fuel + 1) listed a h := by
  have hsel' := Region.noSelect_spec hsel
  intro fuel
  induction fuel with
  | zero =>
    intro listed a h _ _ hr hy H
    refine ⟨fun h => (by rw [h] at hr; cases hr), fun j hj oj hoj => ?_⟩
    by_cases hji : j = i
    · subst hji
      have : oj = oi := Option.some.inj (hoj.symm.trans hi)
      subst this
      rw [if_pos hcls]
      exact ⟨oj, hoj, v, hy _ (hXr _), H⟩
    · have := ready_mono hj hji
      rw [H.1] at this
      cases this
  | succ fuel ih =>
    intro listed a h hS hap hr hy H
    refine ⟨fun h => (by rw [h] at hr; cases hr), fun j hj oj hoj => ?_⟩
    by_cases hji : j = i
    · subst hji
      have : oj = oi := Option.some.inj (hoj.symm.trans hi)
      subst this
      rw [if_pos hcls]
      exact ⟨oj, hoj, v, hy _ (hXr _), H⟩
    · have h1 := H.2 j (ready_mono hj hji) oj hoj
      obtain ⟨hjun, oj', hoj', hall⟩ := mem_ready.1 hj
      have : oj' = oj := Option.some.inj (hoj'.symm.trans hoj)
      subst this
      have hSj : S j = true := hclosed j oj' hoj hji fun e he hb => hS _ (hall e he hb)
      obtain ⟨hc1, hapj⟩ := hap j oj' hoj hSj hji hjun
      rw [Array.setIfInBounds_comm _ _ (Ne.symm hji)] at h1
      have hS' : ∀ k, (listed.setIfInBounds j true).getD k false = true → S k = true := by
        intro k hk
        by_cases hjk : j = k
        · subst hjk; exact hSj
        · rw [getD_set_ne false hjk] at hk; exact hS k hk
      have hap' : ∀ k ok, ops[k]? = some ok → S k = true → k ≠ i → (listed.setIfInBounds j true).getD k true = false → (cls qs ok.op ≤ 1 ∨ cls qs ok.op = 3) ∧ oi.apart ops ok = true := by
        intro k ok hk hSk hki hun
        refine hap k ok hk hSk hki ?_
        by_cases hjk : j = k
        · subst hjk; exact hjun
        · rw [getD_set_ne true hjk] at hun; exact hun
      split
      · rename_i hc0
        rw [if_pos hc0] at h1
        have h2 := stH_put hoj hapj (fun cs b => hsel' i oi cs b hi) (fun cs b => hsel' j oj' cs b hoj) (Y := fun a => ∀ h', X h h' → YieldsH P ops c h' oi v a) (fun a a' y e w h' hx => (y h' hx).of_same e w) hy h1
        obtain ⟨o, ho, u, hyu, hyi, hK⟩ := h2
        exact ⟨o, ho, u, hyu, ih _ _ h hS' hap' (ready_mono hr (Ne.symm hji)) hyi hK⟩
      · rename_i hc0
        rw [if_neg hc0] at h1
        have hc3 : cls qs oj'.op = 3 := hc1.resolve_left hc0
        intro w hc
        refine wpOp_mono (fun a' w' h3 => ?_) (wpOp_putY hc3 hoj hapj (fun cs b => hsel' i oi cs b hi) (fun cs b => hsel' j oj' cs b hoj) (Y := fun a => ∀ h', X h h' → YieldsH P ops c h' oi v a) (fun a a' y e w h' hx => (y h' hx).of_same e w) hy (h1 w hc))
        obtain ⟨hyi, h', hc', hx, hK⟩ := h3
        exact ⟨h', hc', hx, ih _ _ h' hS' hap' (ready_mono hr (Ne.symm hji)) (fun h'' hx' => hyi h'' (hXt _ _ _ (hx hc3) hx')) hK⟩

/-- One that alone is ready goes first. -/
theorem firstLone {QN : Act → Heap → Prop} {i : Nat} {oi : Oper} (hi : ops[i]? = some oi) (hcls : ¬ cls qs oi.op ≤ 1) {fuel : Nat} {listed : Array Bool} {a : Act} {h : Heap}
    (hr : Region.ready .any ops listed = [i])
    (H : ∀ w, At c h w → wpOp P ops noWay i (fun a' w' => ∃ h', At c h' w' ∧ (cls qs oi.op = 3 → X h h') ∧ wpAnyC P ops c qs X QN fuel (listed.setIfInBounds i true) a' h') a w) :
    wpAnyC P ops c qs X QN (fuel + 1) listed a h := by
  refine ⟨fun h0 => (by rw [h0] at hr; cases hr), fun j hj oj hoj => ?_⟩
  rw [hr] at hj
  have : j = i := by simpa using hj
  subst this
  have : oj = oi := Option.some.inj (hoj.symm.trans hi)
  subst this
  rw [if_neg hcls]
  exact H

/-- The walk in one order: what each operation must do at its turn. -/
def wpOrd (P : Program) (ops : Array Oper) (c : World) (qs : List FuncId) (X : Heap → Heap → Prop) (QN : Act → Heap → Prop) : List Nat → Act → Heap → Prop
  | [], a, h => QN a h
  | i :: rest, a, h => ∃ o, ops[i]? = some o ∧
    if cls qs o.op = 0 then ∃ v, Yields P ops o v a ∧ wpOrd P ops c qs X QN rest (a.put o.dst v) h
    else if cls qs o.op = 1 then ∃ v, (∀ h', X h h' → YieldsH P ops c h' o v a) ∧ wpOrd P ops c qs X QN rest (a.put o.dst v) h
    else ∀ w, At c h w → wpOp P ops noWay i (fun a' w' => ∃ h', At c h' w' ∧ (cls qs o.op = 3 → X h h') ∧ wpOrd P ops c qs X QN rest a' h') a w

/-- A region whose order is the text's. -/
theorem region_text (hXr : ∀ h, X h h) {id : Nat} {QN : Act → Heap → Prop} {Q : Exit → Act → World → Prop} {a : Act} {h : Heap} {w : World}
    (hQ : ∀ a h w, At c h w → QN a h → Q .normal a w) (hc : At c h w) (hh : wpOrd P ops c qs X QN (List.range ops.size) a h) :
    (Code.region id ops false).wp P Q a w := by
  refine wp_region ?_
  generalize List.range ops.size = l at hh
  induction l generalizing a h w with
  | nil => exact hQ _ _ _ hc hh
  | cons i rest ih =>
    obtain ⟨o, ho, hh⟩ := hh
    rw [wpOps_cons]
    split at hh
    · obtain ⟨v, hy, hK⟩ := hh
      exact hy.wpOp ho (ih hc hK)
    · split at hh
      · obtain ⟨v, hy, hK⟩ := hh
        exact wpOp_of_stH hc (fun a' w' hc' h' => ih hc' h') ⟨o, ho, v, hy _ (hXr _), hK⟩
      · exact wpOp_noWay (wpOp_mono (fun a' w' ⟨h', hc', _, hK⟩ => ih hc' hK) (hh w hc))

/-! The same look, by masks: what the kernel reckons fast. -/
structure Ent where
  d : Option Nat
  L : List Nat
  pm : Nat
  c : Nat

def predMask (o : Oper) : Nat := o.after.toList.foldl (fun m e => if Region.binds .any e then m ||| 1 <<< e.on else m) 0
def entOf (ops : Array Oper) (qs : List FuncId) (o : Oper) : Ent := ⟨o.dst, o.looksAt ops, predMask o, cls qs o.op⟩
def inB : Option Nat → List Nat → Bool
  | none, _ => false
  | some d, l => l.any fun x => Nat.beq x d
def eqB : Option Nat → Option Nat → Bool
  | some d, some e => Nat.beq d e
  | _, _ => false
def pairOk (x y : Ent) (i : Nat) : Bool := y.pm.testBit i || !(inB x.d y.L || eqB x.d y.d || inB y.d x.L)
def staticOk : Nat → List Ent → Bool
  | _, [] => true
  | i, x :: ys => ys.all (fun y => pairOk x y i) && staticOk (i + 1) ys
def sub (a b : Nat) : Bool := Nat.beq (a &&& b) a
def clo (i : Nat) : Nat → List Ent → Nat → Nat
  | _, [], S => S
  | j, e :: r, S => clo i (j + 1) r (bif !Nat.beq j i && sub e.pm S then S ||| 1 <<< j else S)
def closedB (i S : Nat) : Nat → List Ent → Bool
  | _, [] => true
  | j, e :: r => (Nat.beq j i || !sub e.pm S || S.testBit j) && closedB i S (j + 1) r
def effB (S mask : Nat) : Nat → List Ent → Bool
  | _, [] => true
  | j, e :: r => (!S.testBit j || mask.testBit j || (Nat.ble e.c 1 || Nat.beq e.c 3)) && effB S mask (j + 1) r
def loneB (i mask : Nat) : Nat → List Ent → Bool
  | _, [] => true
  | j, e :: r => (Nat.beq j i || mask.testBit j || !sub e.pm mask) && loneB i mask (j + 1) r
def stepB (E : List Ent) (mask i : Nat) : Bool := match E[i]? with
  | none => false
  | some e => !mask.testBit i && sub e.pm mask && match e.c with
    | 0 => true
    | 1 => let S := clo i 0 E mask
           closedB i S 0 E && sub mask S && effB S mask 0 E
    | _ => loneB i mask 0 E
def stepsB (E : List Ent) : List Nat → Nat → Bool
  | [], mask => Nat.beq mask (2 ^ E.length - 1)
  | i :: ord, mask => stepB E mask i && stepsB E ord (mask ||| 1 <<< i)
/-- The look. -/
def fastOk (l : List Oper) (qs : List FuncId) (ord : List Nat) : Bool :=
  let E := l.map (entOf l.toArray qs)
  Region.noSelect l.toArray && Nat.beq ord.length l.length && staticOk 0 E && stepsB E ord 0

theorem testBit_or_shift (m i j : Nat) : (m ||| 1 <<< i).testBit j = (m.testBit j || decide (i = j)) := by
  rw [Nat.testBit_or, Nat.one_shiftLeft, Nat.testBit_two_pow]
theorem predMask_bit (o : Oper) (k : Nat) : (predMask o).testBit k = true ↔ ∃ e ∈ o.after, Region.binds .any e = true ∧ e.on = k := by
  unfold predMask
  have key : ∀ (l : List Edge) (m : Nat), (l.foldl (fun m e => if Region.binds .any e then m ||| 1 <<< e.on else m) m).testBit k = true ↔ m.testBit k = true ∨ ∃ e ∈ l, Region.binds .any e = true ∧ e.on = k := by
    intro l
    induction l with
    | nil => intro m; simp
    | cons e l ih =>
      intro m
      rw [List.foldl_cons, ih]
      by_cases hb : Region.binds .any e = true
      · rw [if_pos hb, testBit_or_shift]
        simp only [Bool.or_eq_true, decide_eq_true_eq, List.mem_cons, exists_eq_or_imp, hb, true_and]
        constructor
        · rintro ((h | h) | h)
          · exact .inl h
          · exact .inr (.inl h)
          · exact .inr (.inr h)
        · rintro (h | h | h)
          · exact .inl (.inl h)
          · exact .inl (.inr h)
          · exact .inr h
      · rw [if_neg hb]
        simp only [List.mem_cons, exists_eq_or_imp, hb, Bool.false_eq_true, false_and, false_or]
  rw [key]
  simp
theorem sub_iff {a b : Nat} : sub a b = true ↔ ∀ k, a.testBit k = true → b.testBit k = true := by
  unfold sub
  constructor
  · intro h k hk
    have := congrArg (fun x => Nat.testBit x k) (Nat.eq_of_beq_eq_true h)
    simp only [Nat.testBit_and, hk, Bool.true_and] at this
    exact this
  · intro h
    have : a &&& b = a := by
      apply Nat.eq_of_testBit_eq
      intro k
      rw [Nat.testBit_and]
      cases ha : a.testBit k with
      | false => rfl
      | true => simp [h k ha]
    rw [this]; exact Nat.beq_refl a
theorem inB_iff {d : Nat} {l : List Nat} : inB (some d) l = true ↔ d ∈ l := by
  simp only [inB, List.any_eq_true]
  constructor
  · rintro ⟨x, hx, h⟩; rw [← Nat.eq_of_beq_eq_true h]; exact hx
  · intro h; exact ⟨d, h, Nat.beq_refl d⟩

theorem pairOk_apart {l : List Oper} {x y : Oper} {i : Nat} (h : pairOk (entOf l.toArray qs x) (entOf l.toArray qs y) i = true) : (predMask y).testBit i = true ∨ (x.apart l.toArray y = true ∧ y.apart l.toArray x = true) := by
  unfold pairOk at h
  rw [Bool.or_eq_true] at h
  rcases h with h | h
  · exact .inl h
  · refine .inr ?_
    simp only [entOf, Bool.not_eq_true', Bool.or_eq_false_iff] at h
    obtain ⟨⟨h1, h2⟩, h3⟩ := h
    have e1 : ∀ d, x.dst = some d → d ∉ y.looksAt l.toArray := fun d hd hm => by rw [hd, inB_iff.2 hm] at h1; cases h1
    have e2 : ∀ d, x.dst = some d → y.dst ≠ some d := fun d hd hm => by rw [hd, hm] at h2; simp [eqB] at h2
    have e3 : ∀ d, y.dst = some d → d ∉ x.looksAt l.toArray := fun d hd hm => by rw [hd, inB_iff.2 hm] at h3; cases h3
    constructor
    · unfold Oper.apart
      cases hx : x.dst with
      | none => cases hy : y.dst with
        | none => rfl
        | some e => simpa using e3 e hy
      | some d => cases hy : y.dst with
        | none => simpa using e1 d hx
        | some e =>
          have h4 := e2 d hx
          rw [hy] at h4
          simp only [Bool.and_eq_true, Bool.not_eq_true', List.contains_eq_mem, decide_eq_false_iff_not, bne_iff_ne, ne_eq]
          exact ⟨⟨e1 d hx, h4⟩, e3 e hy⟩
    · unfold Oper.apart
      cases hy : y.dst with
      | none => cases hx : x.dst with
        | none => rfl
        | some d => simpa using e1 d hx
      | some e => cases hx : x.dst with
        | none => simpa using e3 e hy
        | some d =>
          have h4 := e2 d hx
          rw [hy] at h4
          simp only [Bool.and_eq_true, Bool.not_eq_true', List.contains_eq_mem, decide_eq_false_iff_not, bne_iff_ne, ne_eq]
          exact ⟨⟨e3 e hy, fun h5 => h4 h5.symm⟩, e1 d hx⟩

theorem staticOk_pairs {l : List Ent} : ∀ (k : Nat), staticOk k l = true → ∀ i j x y, l[i]? = some x → l[j]? = some y → i < j → pairOk x y (k + i) = true := by
  induction l with
  | nil => intro k _ i j x y hx; simp at hx
  | cons e l ih =>
    intro k h i j x y hx hy hij
    simp only [staticOk, Bool.and_eq_true, List.all_eq_true] at h
    cases i with
    | zero =>
      obtain ⟨j, rfl⟩ : ∃ j', j = j' + 1 := ⟨j - 1, by omega⟩
      simp only [List.getElem?_cons_zero, Option.some.injEq, List.getElem?_cons_succ] at hx hy
      subst hx
      exact h.1 y (List.mem_of_getElem? hy)
    | succ i =>
      obtain ⟨j, rfl⟩ : ∃ j', j = j' + 1 := ⟨j - 1, by omega⟩
      simp only [List.getElem?_cons_succ] at hx hy
      have := ih (k + 1) h.2 i j x y hx hy (by omega)
      rwa [show k + 1 + i = k + (i + 1) by omega] at this

theorem closedB_spec {i S : Nat} {E : List Ent} : ∀ (k : Nat), closedB i S k E = true → ∀ j e, E[j]? = some e → k + j ≠ i → sub e.pm S = true → S.testBit (k + j) = true := by
  induction E with
  | nil => intro k _ j e he; simp at he
  | cons x E ih =>
    intro k h j e he hne hs
    simp only [closedB, Bool.and_eq_true, Bool.or_eq_true, Bool.not_eq_true'] at h
    cases j with
    | zero =>
      simp only [List.getElem?_cons_zero, Option.some.injEq] at he
      subst he
      rcases h.1 with (h1 | h1) | h1
      · exact absurd (Nat.eq_of_beq_eq_true h1) hne
      · rw [hs] at h1; cases h1
      · exact h1
    | succ j =>
      simp only [List.getElem?_cons_succ] at he
      have := ih (k + 1) h.2 j e he (by omega) hs
      rwa [show k + 1 + j = k + (j + 1) by omega] at this
theorem effB_spec {S mask : Nat} {E : List Ent} : ∀ (k : Nat), effB S mask k E = true → ∀ j e, E[j]? = some e → S.testBit (k + j) = true → mask.testBit (k + j) = false → e.c ≤ 1 ∨ e.c = 3 := by
  induction E with
  | nil => intro k _ j e he; simp at he
  | cons x E ih =>
    intro k h j e he hs hm
    simp only [effB, Bool.and_eq_true, Bool.or_eq_true, Bool.not_eq_true'] at h
    cases j with
    | zero =>
      simp only [List.getElem?_cons_zero, Option.some.injEq] at he
      subst he
      rcases h.1 with (h1 | h1) | h1
      · rw [Nat.add_zero] at hs; rw [hs] at h1; cases h1
      · rw [Nat.add_zero] at hm; rw [hm] at h1; cases h1
      · exact h1.imp Nat.le_of_ble_eq_true Nat.eq_of_beq_eq_true
    | succ j =>
      simp only [List.getElem?_cons_succ] at he
      rw [show k + (j + 1) = k + 1 + j by omega] at hs hm
      exact ih (k + 1) h.2 j e he hs hm
theorem loneB_spec {i mask : Nat} {E : List Ent} : ∀ (k : Nat), loneB i mask k E = true → ∀ j e, E[j]? = some e → mask.testBit (k + j) = false → sub e.pm mask = true → k + j = i := by
  induction E with
  | nil => intro k _ j e he; simp at he
  | cons x E ih =>
    intro k h j e he hm hs
    simp only [loneB, Bool.and_eq_true, Bool.or_eq_true, Bool.not_eq_true'] at h
    cases j with
    | zero =>
      simp only [List.getElem?_cons_zero, Option.some.injEq] at he
      subst he
      rcases h.1 with (h1 | h1) | h1
      · exact (Nat.eq_of_beq_eq_true h1)
      · rw [Nat.add_zero] at hm; rw [hm] at h1; cases h1
      · rw [hs] at h1; cases h1
    | succ j =>
      simp only [List.getElem?_cons_succ] at he
      rw [show k + (j + 1) = k + 1 + j by omega] at hm ⊢
      exact ih (k + 1) h.2 j e he hm hs

/-- The list of flags and the mask say the same. -/
def Same (n mask : Nat) (listed : Array Bool) : Prop := listed.size = n ∧ ∀ j, listed.getD j false = mask.testBit j

theorem Same.unlisted {n mask : Nat} {listed : Array Bool} (s : Same n mask listed) {j : Nat} : listed.getD j true = false ↔ (j < n ∧ mask.testBit j = false) := by
  rw [← s.2 j, ← s.1]
  rcases Nat.lt_or_ge j listed.size with h | h
  · simp [h]
  · simp [Array.getElem?_eq_none h]; omega
theorem Same.set {n mask : Nat} {listed : Array Bool} (s : Same n mask listed) {i : Nat} (hi : i < n) : Same n (mask ||| 1 <<< i) (listed.setIfInBounds i true) := by
  refine ⟨by simp [s.1], fun j => ?_⟩
  rw [testBit_or_shift, ← s.2 j]
  by_cases h : i = j
  · subst h
    have : i < listed.size := by rw [s.1]; exact hi
    simp [this]
  · rw [getD_set_ne false h]; simp [h]

theorem firstLone' {QN : Act → Heap → Prop} {i : Nat} {oi : Oper} (hi : ops[i]? = some oi) (hcls : ¬ cls qs oi.op ≤ 1) {fuel : Nat} {listed : Array Bool} {a : Act} {h : Heap}
    (hr0 : i ∈ Region.ready .any ops listed) (hr : ∀ j ∈ Region.ready .any ops listed, j = i)
    (H : ∀ w, At c h w → wpOp P ops noWay i (fun a' w' => ∃ h', At c h' w' ∧ (cls qs oi.op = 3 → X h h') ∧ wpAnyC P ops c qs X QN fuel (listed.setIfInBounds i true) a' h') a w) :
    wpAnyC P ops c qs X QN (fuel + 1) listed a h := by
  refine ⟨fun h0 => (by rw [h0] at hr0; cases hr0), fun j hj oj hoj => ?_⟩
  have : j = i := hr j hj
  subst this
  have : oj = oi := Option.some.inj (hoj.symm.trans hi)
  subst this
  rw [if_neg hcls]
  exact H

theorem wpAnyC_fast (hXr : ∀ h, X h h) (hXt : ∀ h h' h'', X h h' → X h' h'' → X h h'') {l : List Oper} {QN : Act → Heap → Prop} (hsel : Region.noSelect l.toArray = true) (hst : staticOk 0 (l.map (entOf l.toArray qs)) = true) : ∀ (ord : List Nat) (mask : Nat) (listed : Array Bool) (a : Act) (h : Heap),
    Same l.length mask listed → stepsB (l.map (entOf l.toArray qs)) ord mask = true → wpOrd P l.toArray c qs X QN ord a h → wpAnyC P l.toArray c qs X QN ord.length listed a h
  | [], mask, listed, a, h, hs, hB, hh => by
    refine ⟨?_, hh⟩
    simp only [stepsB, List.length_map] at hB
    have hm := Nat.eq_of_beq_eq_true hB
    cases hr : Region.ready .any l.toArray listed with
    | nil => rfl
    | cons j r =>
      have hj : j ∈ Region.ready .any l.toArray listed := by rw [hr]; exact List.mem_cons_self
      obtain ⟨h1, _⟩ := mem_ready.1 hj
      obtain ⟨h2, h3⟩ := hs.unlisted.1 h1
      rw [hm, Nat.testBit_two_pow_sub_one] at h3
      simp at h3; omega
  | i :: rest, mask, listed, a, h, hs, hB, hh => by
    simp only [stepsB, Bool.and_eq_true] at hB
    obtain ⟨hstep, hB'⟩ := hB
    obtain ⟨oi, hi, hh⟩ := hh
    have hil : l[i]? = some oi := by simpa using hi
    have hlt : i < l.length := (List.getElem?_eq_some_iff.1 hil).1
    have hE : ∀ j o, l[j]? = some o → (l.map (entOf l.toArray qs))[j]? = some (entOf l.toArray qs o) := fun j o hj => by rw [List.getElem?_map, hj]; rfl
    unfold stepB at hstep
    rw [hE i oi hil] at hstep
    simp only [Bool.and_eq_true, Bool.not_eq_true'] at hstep
    obtain ⟨⟨hun, hpm⟩, hcl⟩ := hstep
    have hready : ∀ j o, l[j]? = some o → (j ∈ Region.ready .any l.toArray listed ↔ mask.testBit j = false ∧ sub (predMask o) mask = true) := by
      intro j o hj
      rw [mem_ready]
      have hjl : j < l.length := (List.getElem?_eq_some_iff.1 hj).1
      constructor
      · rintro ⟨h1, o', ho', h2⟩
        have : o' = o := by
          have : l[j]? = some o' := by simpa using ho'
          exact Option.some.inj (this.symm.trans hj)
        subst this
        refine ⟨(hs.unlisted.1 h1).2, sub_iff.2 fun k hk => ?_⟩
        obtain ⟨e, he, hb, rfl⟩ := (predMask_bit o' k).1 hk
        rw [← hs.2]; exact h2 e he hb
      · rintro ⟨h1, h2⟩
        refine ⟨hs.unlisted.2 ⟨hjl, h1⟩, o, by simpa using hj, fun e he hb => ?_⟩
        rw [hs.2]
        exact sub_iff.1 h2 _ ((predMask_bit o e.on).2 ⟨e, he, hb, rfl⟩)
    have hri : i ∈ Region.ready .any l.toArray listed := (hready i oi hil).2 ⟨hun, hpm⟩
    have ih : ∀ (a : Act) (h : Heap), wpOrd P l.toArray c qs X QN rest a h → wpAnyC P l.toArray c qs X QN rest.length (listed.setIfInBounds i true) a h :=
      fun a h hw => wpAnyC_fast hXr hXt hsel hst rest _ _ a h (hs.set hlt) hB' hw
    -- what does not wait for i, and is not listed, is apart from it
    have hapart : ∀ j oj, l[j]? = some oj → j ≠ i → mask.testBit j = false → (∀ e ∈ oj.after, Region.binds .any e = true → e.on ≠ i) → oi.apart l.toArray oj = true := by
      intro j oj hj hne hunj hno
      rcases Nat.lt_or_gt_of_ne hne with hlt' | hgt
      · have hp := staticOk_pairs 0 hst j i _ _ (hE j oj hj) (hE i oi hil) hlt'
        rw [Nat.zero_add] at hp
        rcases pairOk_apart hp with h1 | h1
        · exfalso
          have := sub_iff.1 hpm j h1
          rw [hunj] at this; cases this
        · exact h1.2
      · have hp := staticOk_pairs 0 hst i j _ _ (hE i oi hil) (hE j oj hj) hgt
        rw [Nat.zero_add] at hp
        rcases pairOk_apart hp with h1 | h1
        · exfalso
          obtain ⟨e, he, hb, hon⟩ := (predMask_bit oj i).1 h1
          exact hno e he hb hon
        · exact h1.1
    by_cases h0 : cls qs oi.op = 0
    · rw [if_pos h0] at hh
      obtain ⟨v, hy, hK⟩ := hh
      refine firstPure hi hsel (by omega) rest.length listed a h (fun j oj hj hne hunl hno => ?_) hri hy (ih _ h hK)
      exact hapart j oj (by simpa using hj) hne (hs.unlisted.1 hunl).2 hno
    · rw [if_neg h0] at hh
      by_cases h1 : cls qs oi.op = 1
      · rw [if_pos h1] at hh
        obtain ⟨v, hy, hK⟩ := hh
        rw [show (entOf l.toArray qs oi).c = cls qs oi.op from rfl, h1] at hcl
        simp only [Bool.and_eq_true] at hcl
        obtain ⟨⟨hcl1, hcl2⟩, hcl3⟩ := hcl
        refine firstRead hXr hXt hi hsel (by omega) (S := fun j => (clo i 0 (l.map (entOf l.toArray qs)) mask).testBit j) ?_ rest.length listed a h ?_ ?_ hri hy (ih _ h hK)
        · intro j oj hj hne hall
          have := closedB_spec 0 hcl1 j _ (hE j oj (by simpa using hj)) (by omega) (sub_iff.2 fun k hk => by
            obtain ⟨e, he, hb, rfl⟩ := (predMask_bit oj k).1 hk
            exact hall e he hb)
          simpa using this
        · intro j hj
          rw [hs.2] at hj
          exact sub_iff.1 hcl2 j hj
        · intro j oj hj hS hne hunl
          have hj' : l[j]? = some oj := by simpa using hj
          have hunj := (hs.unlisted.1 hunl).2
          refine ⟨effB_spec 0 hcl3 j _ (hE j oj hj') (by simpa using hS) (by simpa using hunj), ?_⟩
          refine hapart j oj hj' hne hunj fun e he hb hon => ?_
          -- what waits for i is not in S
          have hin : ∀ k, (clo i 0 (l.map (entOf l.toArray qs)) mask).testBit k = true → mask.testBit k = true ∨ ∃ o, l[k]? = some o ∧ k ≠ i ∧ ∃ S', sub (predMask o) S' = true ∧ S'.testBit i = mask.testBit i := by
            have key : ∀ (E : List Ent) (k S : Nat), (∀ x, E[x]? = (l.map (entOf l.toArray qs))[k + x]?) → S.testBit i = mask.testBit i → ∀ y, (clo i k E S).testBit y = true → S.testBit y = true ∨ ∃ o, l[y]? = some o ∧ y ≠ i ∧ ∃ S', sub (predMask o) S' = true ∧ S'.testBit i = mask.testBit i := by
              intro E
              induction E with
              | nil => intro k S _ _ y hy; exact .inl hy
              | cons e E ihE =>
                intro k S hx hSi y hy
                simp only [clo] at hy
                have hx0 := hx 0
                simp only [List.getElem?_cons_zero, Nat.add_zero, List.getElem?_map] at hx0
                have hxs : ∀ x, E[x]? = (l.map (entOf l.toArray qs))[k + 1 + x]? := fun x => by
                  have := hx (x + 1)
                  simp only [List.getElem?_cons_succ] at this
                  rw [this, show k + (x + 1) = k + 1 + x by omega]
                cases hcond : (!Nat.beq k i && sub e.pm S) with
                | false =>
                  rw [hcond] at hy
                  exact ihE (k + 1) S hxs hSi y hy
                | true =>
                  rw [hcond] at hy
                  simp only [Bool.and_eq_true, Bool.not_eq_true'] at hcond
                  have hki : k ≠ i := fun e => by rw [e, Nat.beq_refl] at hcond; cases hcond.1
                  have hSi' : (S ||| 1 <<< k).testBit i = mask.testBit i := by rw [testBit_or_shift, hSi]; simp [hki]
                  rcases ihE (k + 1) _ hxs hSi' y hy with h5 | h5
                  · rw [testBit_or_shift, Bool.or_eq_true, decide_eq_true_eq] at h5
                    rcases h5 with h5 | h5
                    · exact .inl h5
                    · subst h5
                      right
                      cases hlk : l[k]? with
                      | none => rw [hlk] at hx0; cases hx0
                      | some o =>
                        rw [hlk] at hx0
                        simp only [Option.map_some, Option.some.injEq] at hx0
                        subst hx0
                        exact ⟨o, rfl, hki, S, hcond.2, hSi⟩
                  · exact .inr h5
            exact fun k hk => key _ 0 mask (fun x => by rw [Nat.zero_add]) rfl k hk
          rcases hin j hS with h6 | ⟨o, ho, _, S', hs1, hs2⟩
          · rw [hunj] at h6; cases h6
          · have : o = oj := Option.some.inj (ho.symm.trans hj')
            subst this
            have h7 := sub_iff.1 hs1 i ((predMask_bit o i).2 ⟨e, he, hb, hon⟩)
            rw [hs2, hun] at h7
            cases h7
      · rw [if_neg h1] at hh
        have hcl2 : ¬ cls qs oi.op ≤ 1 := by omega
        have hlone : loneB i mask 0 (l.map (entOf l.toArray qs)) = true := by
          revert hcl
          rw [show (entOf l.toArray qs oi).c = cls qs oi.op from rfl]
          split
          · omega
          · omega
          · exact fun h => h
        refine firstLone' hi hcl2 hri (fun j hj => ?_) fun w hc => wpOp_mono (fun a' w' ⟨h', hc', hx, hK⟩ => ⟨h', hc', hx, ih a' h' hK⟩) (hh w hc)
        obtain ⟨h3, o, ho, _⟩ := mem_ready.1 hj
        have hj' : l[j]? = some o := by simpa using ho
        obtain ⟨h4, h5⟩ := (hready j o hj').1 hj
        have := loneB_spec 0 hlone j _ (hE j o hj') (by simpa using h4) h5
        omega

theorem region_fast (hXr : ∀ h, X h h) (hXt : ∀ h h' h'', X h h' → X h' h'' → X h h'') {id : Nat} {l : List Oper} {QN : Act → Heap → Prop} {Q : Exit → Act → World → Prop} {a : Act} {h : Heap} {w : World} (hm : P.follows .mixedOrders = true) {ord : List Nat}
    (hok : fastOk l qs ord = true) (hQ : ∀ a h w, At c h w → QN a h → Q .normal a w) (hc : At c h w) (hh : wpOrd P l.toArray c qs X QN ord a h) :
    (Code.region id l.toArray true).wp P Q a w := by
  simp only [fastOk, Bool.and_eq_true] at hok
  obtain ⟨⟨⟨hsel, hlen⟩, hst⟩, hsteps⟩ := hok
  refine wp_region_any hm ?_
  have := wpAnyC_fast (P := P) (c := c) (QN := QN) hXr hXt hsel hst ord 0 (Array.replicate l.length false) a h ⟨by simp, fun j => by
    rw [Nat.zero_testBit]
    rcases Nat.lt_or_ge j l.length with h | h <;> simp [h]⟩ hsteps hh
  rw [Nat.eq_of_beq_eq_true hlen] at this
  rw [List.size_toArray]
  exact wpAny_of_C hQ _ _ a h _ (hc.drew _) this

end
end Go.Eng
