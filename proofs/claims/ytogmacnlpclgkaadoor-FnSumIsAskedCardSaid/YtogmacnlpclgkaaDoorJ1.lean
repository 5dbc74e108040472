/-
  JOINS 1: from a walk over the blocks as they lie when the call begins to the statement's own words.
-/
import Derived.Test.YtogmacnlpclgkaaDoorW1
import Derived.Test.YtogmacnlpclgkaaDoorRows
import Derived.ChangeSame
import Derived.ChangeVars
import Derived.JoinedOf
import Derived.RowKit
import Derived.RowKitTokens
import Derived.LaidLaws
import Derived.Carry
import Derived.OpenShut
namespace Go.Proofs.YtogmacnlpclgkaaDoor
open Go Go.Eng Go.ChangeShapes Go.WideShapes Go.RowKit

/-! All blocks of cells -/
def objBlk : Obj → Option Blk
  | .cells cs T fr => some ⟨cs.size, fun i => cs.getD i undef, T, fr⟩
  | _ => none
theorem objBlk_obj {o : Obj} {B : Blk} (h : objBlk o = some B) : B.obj = o := by
  unfold objBlk at h
  split at h
  · rename_i cs T fr
    cases h
    unfold Blk.obj Blk.cells
    congr 1
    apply Array.ext
    · simp
    · intro i h1 h2
      simp
  · cases h
def heapG (h : Heap) : Mem := (List.range h.size).filterMap fun i => ((h[i]?).bind objBlk).map fun B => (i, B)
theorem heapG_has {h : Heap} : ∀ p ∈ heapG h, h[p.1]? = some p.2.obj := by
  intro p hp
  unfold heapG at hp
  simp only [List.mem_filterMap, Option.map_eq_some_iff, Option.bind_eq_some_iff] at hp
  obtain ⟨i, _, B, ⟨o, ho, hB⟩, rfl⟩ := hp
  rw [objBlk_obj hB]; exact ho
theorem heapG_mem {h : Heap} {b : Nat} {cs : Array Value} {T : TypeId} {fr : Nat × Nat} (hb : h[b]? = some (.cells cs T fr)) : (b, (⟨cs.size, fun i => cs.getD i undef, T, fr⟩ : Blk)) ∈ heapG h := by
  unfold heapG
  simp only [List.mem_filterMap, Option.map_eq_some_iff, Option.bind_eq_some_iff, List.mem_range]
  exact ⟨b, (Array.getElem?_eq_some_iff.1 hb).1, _, ⟨_, hb, rfl⟩, rfl⟩
theorem heapG_nodup (h : Heap) : ((heapG h).map (·.1)).Nodup := by
  unfold heapG
  have key : ∀ l : List Nat, l.Nodup → ((l.filterMap fun i => ((h[i]?).bind objBlk).map fun B => (i, B)).map (·.1)).Nodup ∧ ∀ x ∈ (l.filterMap fun i => ((h[i]?).bind objBlk).map fun B => (i, B)).map (·.1), x ∈ l := by
    intro l
    induction l with
    | nil => intro _; simp
    | cons i l ih =>
      intro hn
      obtain ⟨h1, h2⟩ := List.nodup_cons.1 hn
      obtain ⟨i1, i2⟩ := ih h2
      rw [List.filterMap_cons]
      cases hq : ((h[i]?).bind objBlk).map fun B => (i, B) with
      | none => exact ⟨i1, fun x hx => List.mem_cons_of_mem _ (i2 x hx)⟩
      | some p =>
        have hp : p.1 = i := by
          simp only [Option.map_eq_some_iff] at hq
          obtain ⟨B, _, rfl⟩ := hq
          rfl
        refine ⟨?_, fun x hx => ?_⟩
        · simp only [List.map_cons, List.nodup_cons]
          rw [hp]
          exact ⟨fun hc => h1 (i2 i hc), i1⟩
        · rw [List.map_cons, List.mem_cons] at hx
          rcases hx with rfl | hx
          · rw [hp]; exact List.mem_cons_self
          · exact List.mem_cons_of_mem _ (i2 x hx)
  exact (key _ List.nodup_range).1

theorem own_heapG (h : Heap) : Own ⟨h, [], false⟩ (heapG h) [] h where
  size := Nat.le_refl _
  has := by simpa using heapG_has
  nodup := by simpa using heapG_nodup h
  known := by simp
  old := fun _ _ _ => rfl
  ex := fun h => by cases h

theorem calls_of_trip {P : Program} {fn : FuncId} {args : Array Value} {R : Value → Mem → Prop} {W : World} (t : Trip P (heapG W.heap) fn args [] R) :
    Calls P fn args W (fun e W' => ∃ v m, e = .returned v ∧ Below W.heap.size W W' ∧ R v m) :=
  (t W W.heap W (At.self W) (own_heapG _)).mono fun _ _ ⟨v, m, h', he, hc, ho, hR⟩ =>
    ⟨v, m, he, ⟨hc.2.2.1, hc.2.1, hc.2.2.2, by rw [hc.1]; exact ho.size, fun k hk => by rw [hc.1]; exact ho.old k hk (by simp [Mem.keys])⟩, hR⟩

/-! Arguments -/
theorem cell_some {W : World} {b o : Nat} {v : Value} (h : W.cell? ⟨b, o, none⟩ = some v) : ∃ cs T fr, W.heap[b]? = some (.cells cs T fr) ∧ o < cs.size ∧ cs.getD o undef = v := by
  unfold World.cell? at h
  split at h
  · rename_i c T fr hb
    simp only [Option.isSome_none, Bool.false_eq_true, if_false] at h
    have hlt := (Array.getElem?_eq_some_iff.1 h).1
    exact ⟨c, T, fr, hb, hlt, by rw [Array.getD_eq_getD_getElem?, h]; rfl⟩
  · cases h
theorem slice_cells {P : Program} {w : World} {base : Nat} {t e : TypeId} {v : Value} (ht : P.underlying t = some (.slice e)) (hval : Value.okWide P w .any base t v) :
    v = .slice none 0 0 ∨ ∃ b o len cap row c, v = .slice (some ⟨b, o, none⟩) len cap ∧ w.shape? b = some (row, c) := by
  unfold Value.okWide at hval
  simp only [ht] at hval
  unfold Cell.okWide at hval
  cases v with
  | slice oa len cap =>
    simp only [ht] at hval
    unfold Cell.ok at hval
    simp only [ht] at hval
    cases oa with
    | none =>
      cases len with
      | zero => cases cap with
        | zero => exact .inl rfl
        | succ c => exact hval.elim
      | succ l => exact hval.elim
    | some a =>
      obtain ⟨_, _, _, hs, row, c, hr, _⟩ := hval
      obtain ⟨b, o, s⟩ := a
      simp only at hs
      subst hs
      exact .inr ⟨b, o, len, cap, row, c, rfl, hr⟩
  | _ =>
    simp only [ht] at hval
    unfold Cell.ok at hval
    simp only [ht] at hval
/-- An argument of type []byte. -/
theorem view_of_trod {H : Type} {enc : TypeId × Value → H} {P : Program} {w : World} {base : Nat} {t e : TypeId} {v : Value} {d : DataW H} {ps : List MemPlace} (ht : P.underlying t = some (.slice e)) (he : P.underlying e = some (.int .u8)) (hc : P.cellsOf e = 1)
    (hval : Value.okWide P w .any base t v) (h : DataW.Trod enc P w 0 (fun _ => true) true t v d ps) : ∃ oa n cp x, v = .slice oa n cp ∧ (∀ i, x i < 256) ∧ View (heapG w.heap) oa n cp x ∧ cp ≤ maxLen := by
  obtain ⟨fuel, h⟩ := h
  rcases slice_cells ht hval with rfl | ⟨b, o, len, cap, row, c, rfl, hr⟩
  · exact ⟨none, 0, 0, fun _ => 0, rfl, fun _ => by show 0 < 256; omega, ⟨Nat.le_refl _, .inl ⟨rfl, rfl, rfl⟩⟩, Nat.zero_le _⟩
  · rcases open_ints ht he hc h with ⟨h1, _⟩ | ⟨a, len', cap', zs, h1, _, h2, h3, h4, _, h5, h6⟩
    · simp [Value.cells] at h1
    · simp only [Value.cells, List.cons.injEq, Value.slice.injEq, Option.some.injEq, and_true] at h1
      obtain ⟨rfl, rfl, rfl⟩ := h1
      simp only [if_true] at h4
      have hz : ∀ i, i < cap → ∃ y : Nat, y < 256 ∧ zs.getD i 0 = y := fun i hi => by
        have hm : zs.getD i 0 ∈ zs := by
          rw [List.getD_eq_getElem?_getD, List.getElem?_eq_getElem (by omega)]
          exact List.getElem_mem _
        have := h6 _ hm
        generalize zs.getD i 0 = z at *
        simp [Lit.wf, IntKind.min, IntKind.max, IntKind.signed, IntKind.bits] at this
        exact ⟨z.toNat, by omega, by omega⟩
      have hc' : ∀ i, i < cap → w.cell? ⟨b, o + i, none⟩ = some (.int .u8 (zs.getD i 0)) := fun i hi => by
        have := h5 i (by omega)
        rwa [Addr_add] at this
      obtain ⟨cs, T, fr, hb⟩ : ∃ cs T fr, w.heap[b]? = some (.cells cs T fr) := by
        unfold World.shape? at hr
        split at hr
        · rename_i cs T fr hb; exact ⟨cs, T, fr, hb⟩
        · cases hr
      refine ⟨_, len, cap, fun i => (zs.getD i 0).toNat % 256, rfl, fun i => Nat.mod_lt _ (by omega), ⟨h2, .inr ⟨b, o, _, rfl, heapG_mem hb, fun h0 => ?_, fun i hi => ?_⟩⟩, h3⟩
      · obtain ⟨cs', T', fr', hb', hlt, _⟩ := cell_some (hc' (len - 1) (by omega))
        rw [hb] at hb'
        cases hb'
        show o + len ≤ cs.size
        omega
      · obtain ⟨cs', T', fr', hb', hlt, hv⟩ := cell_some (hc' i (by omega))
        rw [hb] at hb'
        cases hb'
        obtain ⟨y, hy, he⟩ := hz i (by omega)
        show cs.getD (o + i) undef = _
        rw [hv, he]
        simp only [Int.toNat_natCast]
        rw [Nat.mod_eq_of_lt hy]
end Go.Proofs.YtogmacnlpclgkaaDoor
