/-
  AN ENGINE OF WALKS, PART 6: append, copy, clear, make; slices written out.
-/
import Derived.Test.YtogmacnlpclgkaaDoorEng5
namespace Go.Eng
open Go

def isSl : TK → Bool
  | .sl _ => true
  | _ => false
/-- What is handed to append or copy: k elements, whose cells are src's. -/
def Src (M : Mem) (s : Nat) (x : Value) (k : Nat) (src : Nat → Value) : Prop :=
  (∃ b o cp B, x = .slice (some ⟨b, o, none⟩) k cp ∧ (b, B) ∈ M ∧ o + k * s ≤ B.n ∧ src = fun j => B.g (o + j)) ∨ (k = 0 ∧ ∃ oa cp, x = .slice oa 0 cp)

theorem growBy_le (newLen : Nat) : ∀ (r c : Nat), Builtin.growBy newLen r c ≤ max c (2 * newLen + 768)
  | 0, c => by simp [Builtin.growBy]; omega
  | r + 1, c => by
    unfold Builtin.growBy
    split
    · omega
    · have := growBy_le newLen r (c + (c + 768) / 4)
      omega
theorem nextslicecap_le (newLen old : Nat) (h : old < newLen) : Builtin.nextslicecap newLen old ≤ 2 * newLen + 768 := by
  unfold Builtin.nextslicecap
  split
  · omega
  · split
    · omega
    · have := growBy_le newLen 4 old
      omega

section
variable {P : Program} [ty : TyC P] {G : Mem} {qs : List FuncId} {c : World} {n : Nat} {h0 : Base} {ops : Array Oper} {Q : Fr → Mem → Prop} {rest : List Oper} {f : Fr} {m : Mem}
variable {d : Option Tmp} {T T' tt : TypeId} {pos : String} {aft : Array Edge}

omit ty in
theorem Src.run {w : World} {M : Mem} {s k : Nat} {x : Value} {src : Nat → Value} (hs : Src M s x k src) (hM : ∀ p ∈ M, w.heap[p.1]? = some p.2.obj) :
    (Builtin.lenOf x).run P w = .ok k w ∧ ∀ j, j ≤ k → (Builtin.firstCells s j x).run P w = .ok (tabL (j * s) src).toArray w := by
  rcases hs with ⟨b, o, cp, B, rfl, hm, ho, rfl⟩ | ⟨rfl, oa, cp, rfl⟩
  · refine ⟨by simp [Builtin.lenOf], fun j hj => ?_⟩
    have : j * s ≤ k * s := Nat.mul_le_mul_right _ hj
    simp only [Builtin.firstCells]
    exact run_loadCells_blk (B := B) (hM _ hm) (by omega)
  · refine ⟨by simp [Builtin.lenOf], fun j hj => ?_⟩
    have : j = 0 := by omega
    subst this
    cases oa <;> simp [Builtin.firstCells, tabL, loadCells, loadCellsFrom]

/-- The zeros behind what has been appended. -/
def zerosG (zs : List Value) : Nat → Value := fun i => zs.getD (i % zs.length) undef

theorem zeroCells_get (zs : List Value) (k : Nat) (i : Nat) (h : i < k * zs.length) : (Builtin.zeroCells zs.toArray k)[i]? = some (zerosG zs i) := by
  have h0 : 0 < zs.length := Nat.pos_of_ne_zero fun e => by rw [e] at h; omega
  have hm := Nat.mod_lt i h0
  simp [Builtin.zeroCells, h, zerosG, List.getD, hm]
theorem zeroCells_size (zs : List Value) (k : Nat) : (Builtin.zeroCells zs.toArray k).size = k * zs.length := by simp [Builtin.zeroCells]

def baseA : Option (Nat × Nat × Blk) → Option Addr
  | none => none
  | some (b, o, _) => some ⟨b, o, none⟩
def baseG : Option (Nat × Nat × Blk) → Nat → Value
  | none => fun _ => undef
  | some (_, o, B) => fun j => B.g (o + j)

def BaseIn (h : Heap) (s len cap k : Nat) (src : Nat → Value) : Option (Nat × Nat × Blk) → Prop
  | none => len = 0 ∧ cap = 0
  | some (b, o, B) => h[b]? = some B.obj ∧ B.fr = (0, 0) ∧ o + cap * (s + 1) ≤ B.n ∧ len ≤ cap ∧ (∀ j, j < k * (s + 1) → one1 (src j) = true)
def BaseOut (h h' : Heap) (s len k : Nat) (src : Nat → Value) : Option (Nat × Nat × Blk) → Prop
  | none => h' = h
  | some (b, o, B) => Turned h b ⟨B.n, blit B.g (o + len * (s + 1)) (k * (s + 1)) src, B.T, B.fr⟩ h'

/-- What append comes to, with room and without. -/
theorem run_append {w : World} {x y : Value} {ats : Array TypeId} {e s len cap k : Nat} {base : Option (Nat × Nat × Blk)} {M : Mem} {src : Nat → Value} {zs : List Value} (hT : ats[0]? = some T) (hTe : TyC.tk P T = .sl e) (hs : TyC.sz P e = s + 1)
    (hz : zeroL P e = some zs) (hby : TyC.by_ P e ≤ 64) (hT1 : ∃ T1, ats[1]? = some T1 ∧ isSl (TyC.tk P T1) = true)
    (hx : x = .slice (baseA base) len cap) (hsrc : Src M (s + 1) y k src) (hM : ∀ p ∈ M, w.heap[p.1]? = some p.2.obj) (hk : len + k ≤ 2 ^ 40) (hc : At c w.heap w)
    (ha : BaseIn w.heap s len cap k src base) :
    ∃ v w', (Builtin.append_ ats tt #[x, y]).run P w = .ok v w' ∧ At c w'.heap w' ∧
      ((len + k ≤ cap ∧ v = .slice (baseA base) (len + k) cap ∧ BaseOut w.heap w'.heap s len k src base) ∨
       (cap < len + k ∧ ∃ cap', len + k ≤ cap' ∧ v = .slice (some ⟨w.heap.size, 0, none⟩) (len + k) cap' ∧
          ∃ B : Blk, w'.heap = w.heap.push B.obj ∧ B.fr = (0, 0) ∧ B.n = cap' * (s + 1) ∧
            (∀ i, i < len * (s + 1) → B.g i = baseG base i) ∧ (∀ i, i < k * (s + 1) → B.g (len * (s + 1) + i) = src i) ∧ (∀ i, (len + k) * (s + 1) ≤ i → i < cap' * (s + 1) → B.g i = zerosG zs (i - (len + k) * (s + 1))))) := by
  subst hx
  obtain ⟨T1, hT1, hk1⟩ := hT1
  obtain ⟨hlen, hcells⟩ := hsrc.run (P := P) hM
  have hnew := hcells k (Nat.le_refl _)
  have hu1 : ∃ e1, P.underlying T1 = some (.slice e1) := by
    cases hk2 : TyC.tk P T1 <;> rw [hk2] at hk1 <;> first | (cases hk1; done) | skip
    exact ⟨_, u_sl hk2⟩
  obtain ⟨e1, hu1⟩ := hu1
  obtain ⟨i, z, hi, his, hib, hiz, hzs⟩ := info_of hs (by omega)
  have hzz : z.cells = zs.toArray := by
    unfold zeroL at hz
    rw [hi] at hz
    simp [hiz] at hz
    rw [← hz]
  have hzl : zs.length = s + 1 := by rw [← hzs, hzz]; simp
  by_cases hroom : len + k ≤ cap
  · -- room
    rcases base with _ | ⟨b, o, B⟩
    · obtain ⟨rfl, rfl⟩ := ha
      obtain rfl : k = 0 := by omega
      refine ⟨_, w, ?_, hc, .inl ⟨hroom, rfl, rfl⟩⟩
      simp [Builtin.append_, baseA, hT, hT1, run_underlying (u_sl hTe), run_underlying hu1, run_sizeOf hs (by omega), hlen, hnew]
    · obtain ⟨hb, hf, ho, hlc, hone⟩ := ha
      have hmul : len * (s + 1) + k * (s + 1) ≤ cap * (s + 1) := by rw [← Nat.add_mul]; exact Nat.mul_le_mul_right _ hroom
      obtain ⟨w', hr, hc', t⟩ := run_storeCells_blk (P := P) (tabL (k * (s + 1)) src) 0 (o := o + len * (s + 1)) hb hf (by rw [tabL_length]; omega) (fun v hv => by
        obtain ⟨j, hj⟩ := List.mem_iff_getElem?.1 hv
        have hjl : j < k * (s + 1) := by
          have := (List.getElem?_eq_some_iff.1 hj).1; rwa [tabL_length] at this
        rw [tabL_get _ _ _ hjl] at hj
        cases hj
        exact hone j hjl) hc
      refine ⟨_, w', ?_, hc', .inl ⟨hroom, rfl, ?_⟩⟩
      · simp [Builtin.append_, baseA, hT, hT1, run_underlying (u_sl hTe), run_underlying hu1, run_sizeOf hs (by omega), hlen, hroom, hnew, Addr_add, hr]
      · refine t.congr ?_
        unfold Blk.obj
        congr 1
        apply Blk.cells_congr
        intro j hj
        rw [tabL_length]
        change blit B.g (o + len * (s + 1) + 0) (k * (s + 1)) (listG (tabL (k * (s + 1)) src)) j = blit B.g (o + len * (s + 1)) (k * (s + 1)) src j
        by_cases h1 : o + len * (s + 1) ≤ j ∧ j < o + len * (s + 1) + k * (s + 1)
        · rw [blit_in _ _ _ _ _ (by omega) (by omega), blit_in _ _ _ _ _ (by omega) (by omega), listG_tabL _ _ _ (by omega)]
          rfl
        · rw [blit_out _ _ _ _ _ (by omega), blit_out _ _ _ _ _ (by omega)]
  · -- no room
    have hn1 : ¬ ((((len + k : Nat)) : Int) > IntKind.i64.max ∧ (False ∨ i.bytes = 0)) := by
      intro hh
      have : IntKind.i64.max = 9223372036854775807 := by rfl
      rw [this] at hh
      omega
    have hn2 : ¬ (Builtin.nextslicecap (len + k) cap * i.bytes > 2 ^ 48) := by
      have h1 := nextslicecap_le (len + k) cap (by omega)
      have h2 : Builtin.nextslicecap (len + k) cap * i.bytes ≤ (2 * (len + k) + 768) * 64 := Nat.mul_le_mul h1 (by rw [hib]; exact hby)
      omega
    let q : Question := .appendCap (len + k) cap e
    let cap' := q.cut (w.tape w.drawn q)
    have hcap' : len + k ≤ cap' := Nat.le_add_right _ _
    let cells : Array Value := (tabL (len * (s + 1)) (baseG base)).toArray ++ (tabL (k * (s + 1)) src).toArray ++ Builtin.zeroCells zs.toArray (cap' - (len + k))
    have hsz : cells.size = cap' * (s + 1) := by
      simp only [cells, Array.size_append, List.size_toArray, tabL_length, zeroCells_size, hzl]
      rw [← Nat.add_mul, ← Nat.add_mul]
      congr 1; omega
    have hm1 : (cap' - (len + k)) * (s + 1) = cap' * (s + 1) - (len + k) * (s + 1) := Nat.mul_sub_right_distrib _ _ _
    have hm2 : (len + k) * (s + 1) = len * (s + 1) + k * (s + 1) := Nat.add_mul _ _ _
    let B : Blk := ⟨cap' * (s + 1), fun i => cells.getD i undef, e, (0, 0)⟩
    have hB : B.obj = .cells cells e := by
      unfold Blk.obj
      congr 1
      apply Array.ext_getElem?
      intro j
      by_cases hj : j < cap' * (s + 1)
      · rw [Blk.get B j hj]
        have hj' : j < cells.size := by rw [hsz]; exact hj
        simp [B, hj']
      · rw [Array.getElem?_eq_none (by rw [Blk.size]; exact Nat.le_of_not_lt hj), Array.getElem?_eq_none (by rw [hsz]; exact Nat.le_of_not_lt hj)]
    refine ⟨.slice (some ⟨w.heap.size, 0, none⟩) (len + k) cap', { w with drawn := w.drawn + 1, heap := w.heap.push B.obj }, ?_, ⟨rfl, hc.2⟩, .inr ⟨by omega, cap', hcap', rfl, B, rfl, rfl, rfl, ?_, ?_, ?_⟩⟩
    · rw [hB]
      have hfo : q.forced = false := rfl
      have hinfo : (typeInfo e).run P w = .ok i w := by simp [typeInfo, hi]
      have hinfo2 : ∀ w', (typeInfo e).run P w' = .ok i w' := fun w' => by simp [typeInfo, hi]
      have hzv : ∀ w', (zeroValue e).run P w' = .ok z w' := fun w' => by simp [zeroValue, typeInfo, hi, hiz]
      have hold' : ∀ w', w'.heap = w.heap → (Builtin.firstCells (s + 1) len (.slice (baseA base) len cap)).run P w' = .ok (tabL (len * (s + 1)) (baseG base)).toArray w' := by
        intro w' hw'
        rcases base with _ | ⟨b, o, B⟩
        · obtain ⟨rfl, rfl⟩ := ha
          simp [Builtin.firstCells, tabL, baseA]
        · obtain ⟨hb, hf, ho, hlc, hone⟩ := ha
          simp only [Builtin.firstCells, baseA]
          have : len * (s + 1) ≤ cap * (s + 1) := Nat.mul_le_mul_right _ hlc
          exact run_loadCells_blk (by rw [hw']; exact hb) (by omega)
      have hnew' : ∀ w', w'.heap = w.heap → (Builtin.firstCells (s + 1) k y).run P w' = .ok (tabL (k * (s + 1)) src).toArray w' := fun w' hw' =>
        (hsrc.run (P := P) (w := w') (by rw [hw']; exact hM)).2 k (Nat.le_refl _)
      have hask : ∀ w' b', (askRoom b').run P w' = .ok () w' := fun w' b' => by unfold askRoom; split <;> simp
      have hch : (choose q).run P w = .ok cap' { w with drawn := w.drawn + 1 } := by
        simp [choose, Sem.run, hfo, cap']
      simp only [Builtin.append_, List.getElem?_toArray, List.getElem?_cons_zero, List.getElem?_cons_succ, hT, hT1, Sem.run_bind, run_underlying (u_sl hTe), run_underlying hu1, run_sizeOf hs (by omega), Result.andThen_ok, Sem.run_pure, hlen, Bool.false_eq_true, if_false, if_neg hroom, hinfo, false_or, not_false_eq_true, Bool.not_false, if_true]
      have hn1' : ¬ ((((len + k : Nat)) : Int) > IntKind.i64.max ∧ i.bytes = 0) := fun hh => hn1 ⟨hh.1, .inr hh.2⟩
      simp only [hn1', if_false, Sem.run_bind, hinfo, Result.andThen_ok, hn2]
      rw [show Question.appendCap (len + k) cap e = q from rfl, hch]
      simp only [Result.andThen_ok, hinfo2, hask, hold' { w with drawn := w.drawn + 1 } rfl, hnew' { w with drawn := w.drawn + 1 } rfl, hzv, hzz, newRow, Sem.run_bind, run_newObj, Sem.run_pure]
      rfl
    · intro j hj
      simp only [B, cells, Array.getD_eq_getD_getElem?]
      rw [Array.getElem?_append_left (by simp only [Array.size_append, List.size_toArray, tabL_length]; omega), Array.getElem?_append_left (by simp only [List.size_toArray, tabL_length]; exact hj)]
      simp [tabL_get _ _ _ hj]
    · intro j hj
      simp only [B, cells, Array.getD_eq_getD_getElem?]
      rw [Array.getElem?_append_left (by simp only [Array.size_append, List.size_toArray, tabL_length]; omega), Array.getElem?_append_right (by simp only [List.size_toArray, tabL_length]; omega)]
      simp [tabL_length, tabL_get _ _ _ hj]
    · intro j hj1 hj2
      have hsz2 : ((tabL (len * (s + 1)) (baseG base)).toArray ++ (tabL (k * (s + 1)) src).toArray).size = (len + k) * (s + 1) := by simp [tabL_length, hm2]
      simp only [B, cells, Array.getD_eq_getD_getElem?]
      rw [Array.getElem?_append_right (by rw [hsz2]; exact hj1), hsz2, zeroCells_get _ _ _ (by rw [hzl, hm1]; omega)]
      rfl

end
end Go.Eng
