/-
  AN ENGINE OF WALKS, PART 4: MEMORY: reads, stores, new blocks.
-/
import Derived.Test.YtogmacnlpclgkaaDoorEng3
namespace Go.Eng
open Go

/-! Contents -/
def one1 : Value → Bool
  | .agg _ | .tuple _ => false
  | _ => true

/-- k places from place 'at_' on, laid out of src; the others as they were. -/
def blit (g : Nat → Value) (at_ k : Nat) (src : Nat → Value) : Nat → Value := fun i => bif Nat.ble at_ i && Nat.blt i (at_ + k) then src (i - at_) else g i
def listG (l : List Value) : Nat → Value := fun i => l.getD i undef
def tabL : Nat → (Nat → Value) → List Value
  | 0, _ => []
  | k + 1, g => g 0 :: tabL k fun i => g (i + 1)

theorem blit_in (g : Nat → Value) (a k : Nat) (src : Nat → Value) (i : Nat) (h1 : a ≤ i) (h2 : i < a + k) : blit g a k src i = src (i - a) := by
  have e1 : Nat.ble a i = true := by rw [Nat.ble_eq]; exact h1
  have e2 : Nat.blt i (a + k) = true := by simpa [Nat.blt_eq] using h2
  simp [blit, e1, e2]
theorem blit_out (g : Nat → Value) (a k : Nat) (src : Nat → Value) (i : Nat) (h : i < a ∨ a + k ≤ i) : blit g a k src i = g i := by
  have e : (Nat.ble a i && Nat.blt i (a + k)) = false := by
    rw [Bool.and_eq_false_iff]
    rcases h with h | h
    · left; cases hb : Nat.ble a i with
      | false => rfl
      | true => have := Nat.le_of_ble_eq_true hb; omega
    · right; cases hb : Nat.blt i (a + k) with
      | false => rfl
      | true => have : i < a + k := by simpa [Nat.blt_eq] using hb
                omega
  simp [blit, e]
theorem blit_zero (g : Nat → Value) (a : Nat) (src : Nat → Value) : blit g a 0 src = g := by
  funext i; exact blit_out _ _ _ _ _ (by omega)
theorem blit_one (g : Nat → Value) (a : Nat) (src : Nat → Value) : blit g a 1 src = upd g a (src 0) := by
  funext i
  by_cases h : i = a
  · subst h; rw [blit_in _ _ _ _ _ (by omega) (by omega), upd_same]; simp
  · rw [blit_out _ _ _ _ _ (by omega), upd_other _ _ _ _ h]
theorem tabL_length (k : Nat) : ∀ g, (tabL k g).length = k := by
  induction k with
  | zero => intro g; rfl
  | succ k ih => intro g; simp [tabL, ih]
theorem tabL_get (k : Nat) : ∀ g i, i < k → (tabL k g)[i]? = some (g i) := by
  induction k with
  | zero => intro g i h; omega
  | succ k ih => intro g i h; cases i with
    | zero => rfl
    | succ i => simp only [tabL, List.getElem?_cons_succ]; exact ih _ i (by omega)
theorem tabL_eq (k : Nat) (g : Nat → Value) : ((List.range k).map g) = tabL k g := by
  apply List.ext_getElem?
  intro i
  by_cases h : i < k
  · rw [tabL_get k g i h]; simp [h]
  · simp [h, List.getElem?_eq_none (show (tabL k g).length ≤ i by rw [tabL_length]; omega)]
theorem listG_tabL (k : Nat) (g : Nat → Value) (i : Nat) (h : i < k) : listG (tabL k g) i = g i := by
  simp [listG, tabL_get k g i h]

section
variable {P : Program}

theorem cell_of {w : World} {b : Nat} {B : Blk} (h : w.heap[b]? = some B.obj) {o : Nat} (ho : o < B.n) : w.cell? ⟨b, o, none⟩ = some (B.g o) := by
  unfold World.cell?
  simp only [h, Blk.obj]
  simpa using B.get o ho
theorem frozen_of {w : World} {b : Nat} {B : Blk} (h : w.heap[b]? = some B.obj) (hf : B.fr = (0, 0)) (o : Nat) : w.frozen? ⟨b, o, none⟩ = false := by
  unfold World.frozen?
  simp only [h, Blk.obj, hf]
  simp

theorem run_loadCells_blk {w : World} {b : Nat} {B : Blk} (h : w.heap[b]? = some B.obj) {o k : Nat} (ho : o + k ≤ B.n) :
    (loadCells ⟨b, o, none⟩ k).run P w = .ok (tabL k fun i => B.g (o + i)).toArray w := by
  rw [run_loadCells w ⟨b, o, none⟩ k (fun i => B.g (o + i)) (fun j hj => by rw [Addr_add]; exact cell_of h (by omega)), tabL_eq]

/-- The heap with one block turned. -/
structure Turned (h : Heap) (b : Nat) (B' : Blk) (h' : Heap) : Prop where
  size : h'.size = h.size
  new : h'[b]? = some B'.obj
  old : ∀ i, i ≠ b → h'[i]? = h[i]?

theorem setCell_turned {w : World} {b : Nat} {B : Blk} (h : w.heap[b]? = some B.obj) (o : Nat) (v : Value) :
    Turned w.heap b ⟨B.n, upd B.g o v, B.T, B.fr⟩ (w.setCell ⟨b, o, none⟩ v).heap := by
  refine ⟨by simp [World.setCell], ?_, fun i hi => by simp [World.setCell, Array.getElem?_modify, Ne.symm hi]⟩
  simp only [World.setCell, Array.getElem?_modify, if_true, h, Option.map_some, Blk.obj]
  congr 2
  apply Array.ext_getElem?
  intro i
  rw [show (none : Option Nat).isSome = false from rfl]
  simp only [Bool.false_eq_true, if_false, Array.getElem?_setIfInBounds]
  by_cases hi : i < B.n
  · have e1 := Blk.get ⟨B.n, upd B.g o v, B.T, B.fr⟩ i hi
    rw [e1]
    by_cases hio : o = i
    · subst hio; simp [upd_same, Blk.size, hi]
    · rw [if_neg hio, Blk.get B i hi]; show some (B.g i) = some (upd B.g o v i); rw [upd_other _ _ _ _ (Ne.symm hio)]
  · have e1 : (Blk.mk B.n (upd B.g o v) B.T B.fr).cells[i]? = none := Array.getElem?_eq_none (by rw [Blk.size]; exact Nat.le_of_not_lt hi)
    rw [e1]
    have e2 := Blk.size B
    split
    · split
      · omega
      · rfl
    · exact Array.getElem?_eq_none (by omega)

theorem Put.at {m m' : Mem} {b : Nat} {B B' : Blk} (p : Put m b B B' m') (hn : (m.map (·.1)).Nodup) : ∀ q ∈ m', (q.1 = b → q = (b, B')) ∧ (q.1 ≠ b → q ∈ m) := by
  induction p with
  | here =>
    intro q hq
    simp only [List.map_cons, List.nodup_cons, List.mem_map, not_exists, not_and] at hn
    rcases List.mem_cons.1 hq with rfl | hq
    · exact ⟨fun _ => rfl, fun h => absurd rfl h⟩
    · exact ⟨fun h => absurd h (hn.1 q hq), fun _ => List.mem_cons_of_mem _ hq⟩
  | there p ih =>
    intro q hq
    simp only [List.map_cons, List.nodup_cons, List.mem_map, not_exists, not_and] at hn
    rcases List.mem_cons.1 hq with rfl | hq
    · exact ⟨fun h => absurd h.symm (hn.1 _ p.mem), fun _ => List.mem_cons_self⟩
    · exact ⟨(ih hn.2 q hq).1, fun h => List.mem_cons_of_mem _ ((ih hn.2 q hq).2 h)⟩

theorem Own.turned {h0 : Base} {G m m' : Mem} {h h' : Heap} {b : Nat} {B B' : Blk} (o : Own h0 G m h) (hex : h0.ex = false) (p : Put m b B B' m') (t : Turned h b B' h') : Own h0 G m' h' where
  ex := fun e => by rw [hex] at e; cases e
  size := by rw [t.size]; exact o.size
  nodup := by
    have := o.nodup
    simp only [List.map_append] at this ⊢
    rw [p.keys]; exact this
  has := by
    intro q hq
    have hnd := o.nodup
    simp only [List.map_append, List.nodup_append] at hnd
    rcases List.mem_append.1 hq with hq' | hq'
    · have h1 := p.at hnd.1 q hq'
      by_cases hqb : q.1 = b
      · rw [h1.1 hqb]; exact t.new
      · rw [t.old _ hqb]; exact o.has q (List.mem_append.2 (.inl (h1.2 hqb)))
    · have hqb : q.1 ≠ b := fun e => hnd.2.2 b (List.mem_map.2 ⟨(b, B), p.mem, rfl⟩) b (List.mem_map.2 ⟨q, hq', e⟩) rfl
      rw [t.old _ hqb]; exact o.has q (List.mem_append.2 (.inr hq'))
  known := by
    intro q hq
    have : q.1 ∈ m.map (·.1) := by rw [← p.keys]; exact List.mem_map.2 ⟨q, hq, rfl⟩
    obtain ⟨q', hq', e⟩ := List.mem_map.1 this
    rw [← e]; exact o.known q' hq'
  old := by
    intro i hi hn
    have hib : i ≠ b := by
      intro he
      subst he
      rcases o.known _ p.mem with hk | hk
      · exact hn hk
      · simp only at hk; omega
    rw [t.old i hib]
    exact o.old i hi hn

/-- A new block. -/
theorem Own.push {h0 : Base} {G m : Mem} {h : Heap} (o : Own h0 G m h) (hex : h0.ex = false) (B : Blk) : Own h0 G ((h.size, B) :: m) (h.push B.obj) where
  ex := fun e => by rw [hex] at e; cases e
  size := by have := o.size; simp; omega
  has := by
    intro q hq
    rcases List.mem_cons.1 hq with rfl | hq
    · simp
    · have := o.lt hq
      rw [Array.getElem?_push, if_neg (by omega)]; exact o.has q hq
  nodup := by
    simp only [List.cons_append, List.map_cons, List.nodup_cons, List.mem_map, not_exists, not_and]
    exact ⟨fun q hq e => by have := o.lt hq; omega, o.nodup⟩
  known := by
    intro q hq
    rcases List.mem_cons.1 hq with rfl | hq
    · exact .inr o.size
    · exact o.known q hq
  old := by
    intro i hi hn
    have := o.size
    rw [Array.getElem?_push, if_neg (by omega)]
    exact o.old i hi hn

theorem Own.tail {h0 : Base} {G m : Mem} {h : Heap} {p : Nat × Blk} (o : Own h0 G (p :: m) h) : Own h0 G m h :=
  Own.drop (junk := [p]) (o.perm (by simpa using (List.perm_append_comm (l₁ := [p]) (l₂ := m))))
theorem Ext.push {h0 : Base} {G : Mem} (hex : h0.ex = false) (B : Blk) (h : Heap) : Ext h0 G h (h.push B.obj) := fun _ o => Own.tail (o.push hex B)

theorem Turned.trans {h h1 h2 : Heap} {b : Nat} {B1 B2 : Blk} (t : Turned h b B1 h1) (t' : Turned h1 b B2 h2) : Turned h b B2 h2 :=
  ⟨t'.size.trans t.size, t'.new, fun i hi => (t'.old i hi).trans (t.old i hi)⟩
theorem Turned.refl {h : Heap} {b : Nat} {B : Blk} (hb : h[b]? = some B.obj) : Turned h b B h := ⟨rfl, hb, fun _ _ => rfl⟩
theorem Turned.congr {h h' : Heap} {b : Nat} {B B' : Blk} (t : Turned h b B h') (e : B.obj = B'.obj) : Turned h b B' h' := ⟨t.size, e ▸ t.new, t.old⟩

theorem At.setCell {c : World} {h : Heap} {w : World} (hc : At c h w) (a : Addr) (v : Value) : At c (w.setCell a v).heap (w.setCell a v) := ⟨rfl, hc.2.1, hc.2.2.1, hc.2.2.2⟩

theorem run_store_blk {w : World} {b : Nat} {B : Blk} (h : w.heap[b]? = some B.obj) (hf : B.fr = (0, 0)) {o : Nat} (ho : o < B.n) {v : Value} (hv : one1 v = true) (m : Mode) :
    (store ⟨b, o, none⟩ v m).run P w = .ok () (w.setCell ⟨b, o, none⟩ v) := by
  unfold store
  cases v <;> first | (cases hv; done) | simp [Sem.run, cell_of h ho, frozen_of h hf]

theorem run_storeCells_blk : ∀ (vs : List Value) (k : Nat) {w : World} {c : World} {b : Nat} {B : Blk} (_ : w.heap[b]? = some B.obj) (_ : B.fr = (0, 0)) {o : Nat} (_ : o + k + vs.length ≤ B.n)
    (_ : ∀ v ∈ vs, one1 v = true) (_ : At c w.heap w), ∃ w', (storeCells ⟨b, o, none⟩ vs k).run P w = .ok () w' ∧ At c w'.heap w' ∧ Turned w.heap b ⟨B.n, blit B.g (o + k) vs.length (listG vs), B.T, B.fr⟩ w'.heap
  | [], k, w, c, b, B, h, hf, o, ho, hv, hc => by
    refine ⟨w, by simp [storeCells], hc, ?_⟩
    rw [List.length_nil, blit_zero]; exact .refl h
  | v :: vs, k, w, c, b, B, h, hf, o, ho, hv, hc => by
    simp only [List.length_cons] at ho
    have h1 : (store (Addr.add ⟨b, o, none⟩ k) v).run P w = .ok () (w.setCell ⟨b, o + k, none⟩ v) := by
      rw [Addr_add]; exact run_store_blk h hf (by omega) (hv v List.mem_cons_self) .plain
    have t := setCell_turned h (o + k) v
    obtain ⟨w', hr, hc', t'⟩ := run_storeCells_blk vs (k + 1) (B := ⟨B.n, upd B.g (o + k) v, B.T, B.fr⟩) t.new hf (o := o) (by simp; omega) (fun u hu => hv u (List.mem_cons_of_mem _ hu)) (hc.setCell _ _)
    refine ⟨w', by simp [storeCells, h1, hr], hc', (t.trans t').congr ?_⟩
    unfold Blk.obj
    congr 1
    apply Blk.cells_congr
    intro i hi
    simp only [List.length_cons]
    by_cases h1 : i = o + k
    · subst h1
      rw [blit_out _ _ _ _ _ (by omega), upd_same, blit_in _ _ _ _ _ (by omega) (by omega)]
      simp [listG]
    · by_cases h2 : o + k < i ∧ i < o + k + (vs.length + 1)
      · rw [blit_in _ _ _ _ _ (by omega) (by omega), blit_in _ _ _ _ _ (by omega) (by omega)]
        obtain ⟨j, hj⟩ : ∃ j, i = o + k + 1 + j := ⟨i - (o + k + 1), by omega⟩
        subst hj
        rw [show o + k + 1 + j - (o + (k + 1)) = j by omega, show o + k + 1 + j - (o + k) = j + 1 by omega]
        simp [listG]
      · rw [blit_out _ _ _ _ _ (by omega), blit_out _ _ _ _ _ (by omega), upd_other _ _ _ _ h1]

end
end Go.Eng
