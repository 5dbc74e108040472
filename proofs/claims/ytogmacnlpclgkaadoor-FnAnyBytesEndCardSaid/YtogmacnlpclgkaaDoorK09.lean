/-
  TEXTS MERGED: EngH, EngI.
-/
import Derived.Test.YtogmacnlpclgkaaDoorK08
/-! AN ENGINE OF WALKS, PART 17: views: slices of bytes that are only read. -/
namespace Go.Eng
open Go

/-- A slice of bytes that is only read: n bytes, the i-th one x i. -/
structure View (M : Mem) (oa : Option Addr) (n cp : Nat) (x : Nat → Nat) : Prop where
  le : n ≤ cp
  is : (oa = none ∧ n = 0 ∧ cp = 0) ∨ ∃ b o B, oa = some ⟨b, o, none⟩ ∧ (b, B) ∈ M ∧ (0 < n → o + n ≤ B.n) ∧ ∀ i, i < n → B.g (o + i) = .int .u8 (x i)
/-- The place of a part of it. -/
def subA (oa : Option Addr) (l cap : Nat) : Option Addr := match oa with
  | none => none
  | some ⟨b, o, s⟩ => some ⟨b, sOff o l 1 cap, s⟩
theorem View.sub {M : Mem} {oa : Option Addr} {n cp : Nat} {x : Nat → Nat} (v : View M oa n cp x) {l h : Nat} (hlh : l ≤ h) (hn : h ≤ n) : View M (subA oa l cp) (h - l) (cp - l) (fun i => x (l + i)) := by
  obtain ⟨hle, hv⟩ := v
  rcases hv with ⟨rfl, h1, h2⟩ | ⟨b, o, B, rfl, hm, hf, hg⟩
  · exact ⟨by omega, .inl ⟨rfl, by omega, by omega⟩⟩
  · refine ⟨by omega, .inr ⟨b, sOff o l 1 cp, B, rfl, hm, ?_, fun i hi => ?_⟩⟩
    · intro h0; have := hf (by omega); unfold sOff; split <;> omega
    · have : sOff o l 1 cp = o + l := by unfold sOff; rw [if_neg (by omega)]; omega
      rw [this, Nat.add_assoc]; exact hg _ (by omega)
theorem View.cut {M : Mem} {oa : Option Addr} {n cp : Nat} {x : Nat → Nat} (v : View M oa n cp x) {h : Nat} (hn : h ≤ n) : View M oa h cp x := by
  obtain ⟨hle, hv⟩ := v
  rcases hv with ⟨rfl, h1, h2⟩ | ⟨b, o, B, rfl, hm, hf, hg⟩
  · exact ⟨by omega, .inl ⟨rfl, by omega, by omega⟩⟩
  · exact ⟨by omega, .inr ⟨b, o, B, rfl, hm, fun h0 => by have := hf (by omega); omega, fun i hi => hg i (by omega)⟩⟩
theorem View.some {M : Mem} {oa : Option Addr} {n cp : Nat} {x : Nat → Nat} (v : View M oa n cp x) (h : 0 < n) : ∃ b o, oa = .some ⟨b, o, none⟩ := by
  rcases v.is with ⟨_, h1, _⟩ | ⟨b, o, B, h1, _⟩
  · omega
  · exact ⟨b, o, h1⟩
theorem View.congr {M : Mem} {oa : Option Addr} {n cp : Nat} {x y : Nat → Nat} (v : View M oa n cp x) (h : ∀ i, i < n → x i = y i) : View M oa n cp y := by
  obtain ⟨hle, hv⟩ := v
  rcases hv with ⟨rfl, h1, h2⟩ | ⟨b, o, B, rfl, hm, hf, hg⟩
  · exact ⟨by omega, .inl ⟨rfl, by omega, by omega⟩⟩
  · exact ⟨by omega, .inr ⟨b, o, B, rfl, hm, hf, fun i hi => (hg i hi).trans (by rw [h i hi])⟩⟩
theorem View.mono {M M' : Mem} {oa : Option Addr} {n cp : Nat} {x : Nat → Nat} (v : View M oa n cp x) (h : ∀ p ∈ M, p ∈ M') : View M' oa n cp x := by
  obtain ⟨hle, hv⟩ := v
  rcases hv with h1 | ⟨b, o, B, h1, hm, h2⟩
  · exact ⟨hle, .inl h1⟩
  · exact ⟨hle, .inr ⟨b, o, B, h1, h _ hm, h2⟩⟩

/-- .. as what is appended or copied. -/
theorem View.src {M : Mem} {oa : Option Addr} {n cp : Nat} {x : Nat → Nat} (v : View M oa n cp x) : ∃ src, Src M 1 (.slice oa n cp) n src ∧ ∀ i, i < n → src i = .int .u8 (x i) := by
  obtain ⟨hle, hv⟩ := v
  by_cases h0 : n = 0
  · subst h0
    exact ⟨fun _ => undef, .inr ⟨rfl, oa, cp, rfl⟩, fun i hi => by omega⟩
  · rcases hv with ⟨rfl, h1, h2⟩ | ⟨b, o, B, rfl, hm, hf, hg⟩
    · omega
    · exact ⟨fun j => B.g (o + j), .inl ⟨b, o, cp, B, rfl, hm, by have := hf (by omega); omega, rfl⟩, hg⟩
theorem View.add {M m : Mem} {oa : Option Addr} {n cp : Nat} {x : Nat → Nat} (v : View M oa n cp x) : View (m ++ M) oa n cp x := v.mono fun p hp => List.mem_append.2 (.inr hp)

section
variable {P : Program} [ty : TyC P] {G : Mem} {qs : List FuncId} {c : World} {n : Nat} {h0 : Base} {ops : Array Oper} {Q : Fr → Mem → Prop} {rest : List Oper} {f : Fr} {m : Mem}
variable {d : Option Tmp} {T T' tt : TypeId} {pos : String} {aft : Array Edge}

/-- A part of a view. -/
theorem ro_slV (l h : Nat) {M : Mem} {N cp : Nat} {z : Nat → Nat} {x : Operand} {lo hi : Option Operand} {oa : Option Addr} {e : Nat} {L H : Int} (hv : View M oa N cp z) (hx : ev f x = .slice oa N cp) (hT : TyC.tk P T = .sl e) (hs : TyC.sz P e = 1)
    (hl : optInt f lo 0 = some L) (hh : optInt f hi N = some H) (hL : L = (l : Int)) (hH : H = (h : Int)) (h1 : l ≤ h) (h2 : h ≤ cp) (hd : dstOk n d = true)
    (hk : RO P G qs c n h0 ops Q rest (updo f d (.slice (subA oa l cp) (h - l) (cp - l))) m) :
    RO P G qs c n h0 ops Q (⟨d, .slice T x lo hi none, tt, pos, aft, none⟩ :: rest) f m := by
  subst hL hH
  rcases hv.is with ⟨rfl, h3, h4⟩ | ⟨b, o, B, rfl, hm, hf, hg⟩
  · obtain rfl : N = 0 := h3
    obtain rfl : cp = 0 := h4
    obtain rfl : h = 0 := by omega
    obtain rfl : l = 0 := by omega
    exact ro_sliceNil (s := 0) hx hT hs hl hh hd hk
  · refine ro_slice (s := 0) hx hT hs hl hh (by omega) (by omega) (by omega) hd ?_
    simpa [subA] using hk
/-- .. from its begin on. -/
theorem ro_slVT (h : Nat) {M : Mem} {N cp : Nat} {z : Nat → Nat} {x : Operand} {hi : Option Operand} {oa : Option Addr} {e : Nat} {H : Int} (hv : View M oa N cp z) (hx : ev f x = .slice oa N cp) (hT : TyC.tk P T = .sl e) (hs : TyC.sz P e = 1)
    (hh : optInt f hi N = some H) (hH : H = (h : Int)) (h2 : h ≤ cp) (hd : dstOk n d = true)
    (hk : RO P G qs c n h0 ops Q rest (updo f d (.slice oa h cp)) m) :
    RO P G qs c n h0 ops Q (⟨d, .slice T x none hi none, tt, pos, aft, none⟩ :: rest) f m := by
  refine ro_slV 0 h hv hx hT hs (lo := none) rfl hh rfl hH (by omega) h2 hd ?_
  have : subA oa 0 cp = oa := by
    unfold subA
    split
    · rfl
    · rename_i b o s; unfold sOff; split <;> simp
  rw [this, Nat.sub_zero, Nat.sub_zero]
  exact hk
/-- A byte of a view. -/
theorem ro_loadV {x : Operand} {b o i N cp : Nat} {z : Nat → Nat} (hx : ev f x = .pointer (some ⟨b, o + i, none⟩)) (hT : oneTk (TyC.tk P T) = true) (hv : View G (some ⟨b, o, none⟩) N cp z) (hn : i < N) (hd : dstOk n d = true)
    (h : RO P G qs c n h0 ops Q rest (updo f d (.int .u8 ((z i : Nat) : Int))) m) : RO P G qs c n h0 ops Q (⟨d, .load T x, tt, pos, aft, none⟩ :: rest) f m := by
  rcases hv.is with ⟨h1, _⟩ | ⟨b', o', B, h1, hm, hf, hg⟩
  · cases h1
  · cases h1
    exact ro_loadA hx hT (List.mem_append.2 (.inr hm)) (by have := hf (by omega); omega) (hg i hn) hd h
end
end Go.Eng

/-! AN ENGINE OF WALKS, PART 18: append of so many zeros. -/
namespace Go.Eng
open Go

theorem wrap_i64k {k : Nat} (h : k ≤ 2 ^ 40) : IntKind.i64.wrap (k : Int) = k := wrap_nat (show k < 2 ^ 63 by omega)
theorem zeroCells_tab {zs : List Value} {s : Nat} (hl : zs.length = s + 1) (k : Nat) : (if k * (s + 1) = 0 then #[] else Builtin.zeroCells zs.toArray k) = (tabL (k * (s + 1)) (zerosG zs)).toArray := by
  by_cases h0 : k * (s + 1) = 0
  · rw [if_pos h0, h0]; rfl
  · rw [if_neg h0]
    apply Array.ext_getElem?
    intro j
    by_cases hj : j < k * (s + 1)
    · rw [zeroCells_get _ _ _ (by rw [hl]; exact hj)]
      simp [tabL_get _ _ _ hj]
    · rw [Array.getElem?_eq_none (by rw [zeroCells_size, hl]; exact Nat.le_of_not_lt hj), Array.getElem?_eq_none (by simp [tabL_length]; omega)]
section
variable {P : Program} [ty : TyC P] {c : World} {T tt : TypeId}

theorem run_appendZ {w : World} {x y : Value} {ats : Array TypeId} {e s len cap k : Nat} {base : Option (Nat × Nat × Blk)} {zs : List Value} (hT : ats[0]? = some T) (hTe : TyC.tk P T = .sl e) (hs : TyC.sz P e = s + 1)
    (hz : zeroL P e = some zs) (hby : TyC.by_ P e ≤ 64) (hT1 : ∃ T1, ats[1]? = some T1 ∧ TyC.tk P T1 = .int .i64)
    (hx : x = .slice (baseA base) len cap) (hy : y = .int .i64 (k : Int)) (hk : len + k ≤ 2 ^ 40) (hc : At c w.heap w)
    (ha : BaseIn w.heap s len cap k (zerosG zs) base) :
    ∃ v w', (Builtin.append_ ats tt #[x, y]).run P w = .ok v w' ∧ At c w'.heap w' ∧
      ((len + k ≤ cap ∧ v = .slice (baseA base) (len + k) cap ∧ BaseOut w.heap w'.heap s len k (zerosG zs) base) ∨
       (cap < len + k ∧ ∃ cap', len + k ≤ cap' ∧ v = .slice (some ⟨w.heap.size, 0, none⟩) (len + k) cap' ∧
          ∃ B : Blk, w'.heap = w.heap.push B.obj ∧ B.fr = (0, 0) ∧ B.n = cap' * (s + 1) ∧
            (∀ i, i < len * (s + 1) → B.g i = baseG base i) ∧ (∀ i, i < k * (s + 1) → B.g (len * (s + 1) + i) = zerosG zs i) ∧ (∀ i, (len + k) * (s + 1) ≤ i → i < cap' * (s + 1) → B.g i = zerosG zs (i - (len + k) * (s + 1))))) := by
  subst hx
  obtain ⟨T1, hT1, hk1⟩ := hT1
  subst hy
  have hu1 := u_int hk1
  have hwk : IntKind.i64.wrap (k : Int) = k := wrap_i64k (by omega)
  obtain ⟨i, z, hi, his, hib, hiz, hzs⟩ := info_of hs (by omega)
  have hzz : z.cells = zs.toArray := by
    unfold zeroL at hz
    rw [hi] at hz
    simp [hiz] at hz
    rw [← hz]
  have hzl : zs.length = s + 1 := by rw [← hzs, hzz]; simp
  have hinfo0 : ∀ w', (typeInfo e).run P w' = .ok i w' := fun w' => by simp [typeInfo, hi]
  have hasI : ∀ w', (asInt (.int .i64 (k : Int))).run P w' = .ok (k : Int) w' := fun w' => by simp [asInt, asIntOf]
  have hzv0 : ∀ w', (zeroValue e).run P w' = .ok z w' := fun w' => by simp [zeroValue, typeInfo, hi, hiz]
  have hk0 : ¬ ((k : Int) < 0) := by omega
  have hkb : ¬ ((k : Int) * (i.bytes : Int) > 2 ^ 48) := by
    have h1 : k * i.bytes ≤ 2 ^ 40 * 64 := Nat.mul_le_mul (by omega) (by rw [hib]; exact hby)
    have h2 : ((k * i.bytes : Nat) : Int) = (k : Int) * (i.bytes : Int) := by push_cast; rfl
    omega
  have hzc : (if k * (s + 1) = 0 then #[] else Builtin.zeroCells zs.toArray k) = (tabL (k * (s + 1)) (zerosG zs)).toArray := zeroCells_tab hzl k
  have hnew : ∀ w', ((if k * (s + 1) = 0 then pure #[] else do pure (Builtin.zeroCells (← zeroValue e).cells k)) : Sem (Array Value)).run P w' = .ok (tabL (k * (s + 1)) (zerosG zs)).toArray w' := fun w' => by
    rw [← hzc]
    by_cases h0 : k * (s + 1) = 0
    · rw [if_pos h0, if_pos h0]; rfl
    · rw [if_neg h0, if_neg h0]
      simp only [Sem.run_bind, hzv0, Result.andThen_ok, Sem.run_pure, hzz]
  by_cases hroom : len + k ≤ cap
  · -- room
    rcases base with _ | ⟨b, o, B⟩
    · obtain ⟨rfl, rfl⟩ := ha
      obtain rfl : k = 0 := by omega
      refine ⟨_, w, ?_, hc, .inl ⟨hroom, rfl, rfl⟩⟩
      have hasI0 : ∀ w', (asInt (.int .i64 0)).run P w' = .ok 0 w' := hasI
      have hw0 : IntKind.i64.wrap 0 = 0 := rfl
      simp [Builtin.append_, baseA, hT, hT1, run_underlying (u_sl hTe), run_underlying hu1, run_sizeOf hs (by omega), hinfo0, hasI0, hw0]
    · obtain ⟨hb, hf, ho, hlc, hone⟩ := ha
      have hmul : len * (s + 1) + k * (s + 1) ≤ cap * (s + 1) := by rw [← Nat.add_mul]; exact Nat.mul_le_mul_right _ hroom
      obtain ⟨w', hr, hc', t⟩ := run_storeCells_blk (P := P) (tabL (k * (s + 1)) (zerosG zs)) 0 (o := o + len * (s + 1)) hb hf (by rw [tabL_length]; omega) (fun v hv => by
        obtain ⟨j, hj⟩ := List.mem_iff_getElem?.1 hv
        have hjl : j < k * (s + 1) := by
          have := (List.getElem?_eq_some_iff.1 hj).1; rwa [tabL_length] at this
        rw [tabL_get _ _ _ hjl] at hj
        cases hj
        exact hone j hjl) hc
      refine ⟨_, w', ?_, hc', .inl ⟨hroom, rfl, ?_⟩⟩
      · simp only [Builtin.append_, baseA, List.getElem?_toArray, List.getElem?_cons_zero, List.getElem?_cons_succ, hT, hT1, Sem.run_bind, run_underlying (u_sl hTe), run_underlying hu1, run_sizeOf hs (by omega), Result.andThen_ok, Sem.run_pure, if_true, hasI, hwk, if_neg hk0, hinfo0, if_neg hkb, Int.toNat_natCast, if_pos hroom, Bool.not_true, Bool.false_eq_true, if_false, hnew, Addr_add, hr]
      · refine t.congr ?_
        unfold Blk.obj
        congr 1
        apply Blk.cells_congr
        intro j hj
        rw [tabL_length]
        change blit B.g (o + len * (s + 1) + 0) (k * (s + 1)) (listG (tabL (k * (s + 1)) (zerosG zs))) j = blit B.g (o + len * (s + 1)) (k * (s + 1)) (zerosG zs) j
        by_cases h1 : o + len * (s + 1) ≤ j ∧ j < o + len * (s + 1) + k * (s + 1)
        · rw [blit_in _ _ _ _ _ (by omega) (by omega), blit_in _ _ _ _ _ (by omega) (by omega), listG_tabL _ _ _ (by omega)]
          rfl
        · rw [blit_out _ _ _ _ _ (by omega), blit_out _ _ _ _ _ (by omega)]
  · -- no room
    have hn1 : ¬ ((((len + k : Nat)) : Int) > IntKind.i64.max ∧ (False ∨ i.bytes = 0)) := by
      intro hh
      have : IntKind.i64.max = 9223372036854775807 := by rfl
      rw [this] at hh
      omega
    have hn2 : ¬ (Builtin.nextslicecap (len + k) cap * i.bytes > 2 ^ 48) := by
      have h1 := nextslicecap_le (len + k) cap (by omega)
      have h2 : Builtin.nextslicecap (len + k) cap * i.bytes ≤ (2 * (len + k) + 768) * 64 := Nat.mul_le_mul h1 (by rw [hib]; exact hby)
      omega
    let q : Question := .appendCap (len + k) cap e
    let cap' := q.cut (w.tape w.drawn q)
    have hcap' : len + k ≤ cap' := Nat.le_add_right _ _
    let cells : Array Value := (tabL (len * (s + 1)) (baseG base)).toArray ++ (tabL (k * (s + 1)) (zerosG zs)).toArray ++ Builtin.zeroCells zs.toArray (cap' - (len + k))
    have hsz : cells.size = cap' * (s + 1) := by
      simp only [cells, Array.size_append, List.size_toArray, tabL_length, zeroCells_size, hzl]
      rw [← Nat.add_mul, ← Nat.add_mul]
      congr 1; omega
    have hm1 : (cap' - (len + k)) * (s + 1) = cap' * (s + 1) - (len + k) * (s + 1) := Nat.mul_sub_right_distrib _ _ _
    have hm2 : (len + k) * (s + 1) = len * (s + 1) + k * (s + 1) := Nat.add_mul _ _ _
    let B : Blk := ⟨cap' * (s + 1), fun i => cells.getD i undef, e, (0, 0)⟩
    have hB : B.obj = .cells cells e := by
      unfold Blk.obj
      congr 1
      apply Array.ext_getElem?
      intro j
      by_cases hj : j < cap' * (s + 1)
      · rw [Blk.get B j hj]
        have hj' : j < cells.size := by rw [hsz]; exact hj
        simp [B, hj']
      · rw [Array.getElem?_eq_none (by rw [Blk.size]; exact Nat.le_of_not_lt hj), Array.getElem?_eq_none (by rw [hsz]; exact Nat.le_of_not_lt hj)]
    refine ⟨.slice (some ⟨w.heap.size, 0, none⟩) (len + k) cap', { w with drawn := w.drawn + 1, heap := w.heap.push B.obj }, ?_, ⟨rfl, hc.2⟩, .inr ⟨by omega, cap', hcap', rfl, B, rfl, rfl, rfl, ?_, ?_, ?_⟩⟩
    · rw [hB]
      have hfo : q.forced = false := rfl
      have hinfo : (typeInfo e).run P w = .ok i w := by simp [typeInfo, hi]
      have hinfo2 : ∀ w', (typeInfo e).run P w' = .ok i w' := fun w' => by simp [typeInfo, hi]
      have hzv : ∀ w', (zeroValue e).run P w' = .ok z w' := fun w' => by simp [zeroValue, typeInfo, hi, hiz]
      have hold' : ∀ w', w'.heap = w.heap → (Builtin.firstCells (s + 1) len (.slice (baseA base) len cap)).run P w' = .ok (tabL (len * (s + 1)) (baseG base)).toArray w' := by
        intro w' hw'
        rcases base with _ | ⟨b, o, B⟩
        · obtain ⟨rfl, rfl⟩ := ha
          simp [Builtin.firstCells, tabL, baseA]
        · obtain ⟨hb, hf, ho, hlc, hone⟩ := ha
          simp only [Builtin.firstCells, baseA]
          have : len * (s + 1) ≤ cap * (s + 1) := Nat.mul_le_mul_right _ hlc
          exact run_loadCells_blk (by rw [hw']; exact hb) (by omega)
      have hask : ∀ w' b', (askRoom b').run P w' = .ok () w' := fun w' b' => by unfold askRoom; split <;> simp
      have hch : (choose q).run P w = .ok cap' { w with drawn := w.drawn + 1 } := by
        simp [choose, Sem.run, hfo, cap']
      simp only [Builtin.append_, List.getElem?_toArray, List.getElem?_cons_zero, List.getElem?_cons_succ, hT, hT1, Sem.run_bind, run_underlying (u_sl hTe), run_underlying hu1, run_sizeOf hs (by omega), Result.andThen_ok, Sem.run_pure, if_true, hasI, hwk, if_neg hk0, hinfo0, if_neg hkb, Int.toNat_natCast, if_neg hroom, Bool.not_true, Bool.false_eq_true, if_false, true_or, and_true]
      have hn1' : ¬ ((((len + k : Nat)) : Int) > IntKind.i64.max) := by
        have : IntKind.i64.max = 9223372036854775807 := by rfl
        rw [this]; omega
      simp only [hn1', if_false, Sem.run_bind, hinfo, Result.andThen_ok, hn2]
      rw [show Question.appendCap (len + k) cap e = q from rfl, hch]
      simp only [Result.andThen_ok, hinfo2, hask, hold' { w with drawn := w.drawn + 1 } rfl, hnew, hzv, hzz, newRow, Sem.run_bind, run_newObj, Sem.run_pure]
      rfl
    · intro j hj
      simp only [B, cells, Array.getD_eq_getD_getElem?]
      rw [Array.getElem?_append_left (by simp only [Array.size_append, List.size_toArray, tabL_length]; omega), Array.getElem?_append_left (by simp only [List.size_toArray, tabL_length]; exact hj)]
      simp [tabL_get _ _ _ hj]
    · intro j hj
      simp only [B, cells, Array.getD_eq_getD_getElem?]
      rw [Array.getElem?_append_left (by simp only [Array.size_append, List.size_toArray, tabL_length]; omega), Array.getElem?_append_right (by simp only [List.size_toArray, tabL_length]; omega)]
      simp [tabL_length, tabL_get _ _ _ hj]
    · intro j hj1 hj2
      have hsz2 : ((tabL (len * (s + 1)) (baseG base)).toArray ++ (tabL (k * (s + 1)) (zerosG zs)).toArray).size = (len + k) * (s + 1) := by simp [tabL_length, hm2]
      simp only [B, cells, Array.getD_eq_getD_getElem?]
      rw [Array.getElem?_append_right (by rw [hsz2]; exact hj1), hsz2, zeroCells_get _ _ _ (by rw [hzl, hm1]; omega)]
      rfl


end
section
variable {P : Program} [ty : TyC P] {G : Mem} {qs : List FuncId} {c : World} {n : Nat} {h0 : Base} {ops : Array Oper} {Q : Fr → Mem → Prop} {rest : List Oper} {f : Fr} {m : Mem}
variable {d : Option Tmp} {T T' tt : TypeId} {pos : String} {aft : Array Edge}

theorem ro_appZCore {x y : Operand} {ats : Array TypeId} {T1 e s len cap k : Nat} {zs : List Value} {base : Option (Nat × Nat × Blk)} {fm : Mem} (hx : ev f x = .slice (baseA base) len cap) (hT : ats[0]? = some T) (hTe : TyC.tk P T = .sl e) (hs : TyC.sz P e = s + 1)
    (hz : zeroL P e = some zs) (hby : TyC.by_ P e ≤ 64) (hT1 : ats[1]? = some T1) (hT1' : TyC.tk P T1 = .int .i64)
    (hm : m.Perm (baseM base ++ fm)) (ha : BaseFit s len cap base)
    (hy : ev f y = .int .i64 (k : Int)) (hone : ∀ j, j < k * (s + 1) → one1 ((zerosG zs) j) = true) (hk : len + k ≤ 2 ^ 40) (hex : h0.ex = false) (hd : dstOk n d = true)
    (h1 : len + k ≤ cap → RO P G qs c n h0 ops Q rest (updo f d (.slice (baseA base) (len + k) cap)) (basePut s len k (zerosG zs) base ++ fm))
    (h2 : cap < len + k → ∀ b' cap' B', len + k ≤ cap' → B'.fr = (0, 0) → B'.n = cap' * (s + 1) → (∀ i, i < len * (s + 1) → B'.g i = baseG base i) → (∀ i, i < k * (s + 1) → B'.g (len * (s + 1) + i) = (zerosG zs) i) →
      (∀ i, (len + k) * (s + 1) ≤ i → i < cap' * (s + 1) → B'.g i = zerosG zs (i - (len + k) * (s + 1))) → RO P G qs c n h0 ops Q rest (updo f d (.slice (some ⟨b', 0, none⟩) (len + k) cap')) ((b', B') :: fm)) :
    RO P G qs c n h0 ops Q (⟨d, .call ⟨.builtin .append, #[x, y], ats⟩, tt, pos, aft, none⟩ :: rest) f m := by
  refine ro_eff rfl rfl hd fun hp w hw hc a r => ?_
  have hw1 := hw.perm hm
  have hc' : At c w.heap w := ⟨rfl, hc.2⟩
  have hha : BaseIn w.heap s len cap k (zerosG zs) base := by
    rcases base with _ | ⟨b, o, B⟩
    · exact ha
    · refine ⟨?_, ha.1, ha.2.1, ha.2.2, hone⟩
      rw [hc.1]; exact hw1.has (b, B) (by simp [baseM])
  obtain ⟨v', w', hr, hc2, hcase⟩ := run_appendZ (P := P) (tt := tt) (base := base) hT hTe hs hz hby ⟨T1, hT1, hT1'⟩ rfl hy hk hc' hha
  have hrun : (execOp a.eval ⟨d, .call ⟨.builtin .append, #[x, y], ats⟩, tt, pos, aft, none⟩).run P w = .ok (.value v') w' := by
    rw [r.eval]
    simp only [execOp, resolve, Sem.run_bind, Sem.run_pure, Result.andThen_ok, invoke, builtin]
    rw [show (#[x, y].map (ev f)) = #[ev f x, ev f y] by simp, hx, hr]
    rfl
  rcases hcase with ⟨hroom, rfl, hh⟩ | ⟨hno, cap', hcap, rfl, B', hh, hf, hn', g1, g2, g3⟩
  · refine upon_val_ok hrun ⟨_, _, w'.heap, r.put hd _, hc2, ?_, h1 hroom⟩
    rcases base with _ | ⟨b, o, B⟩
    · have hh' : w'.heap = w.heap := hh
      rw [hh', hc.1]
      simpa [baseM, basePut] using hw1
    · have hh' : Turned w.heap b _ w'.heap := hh
      rw [hc.1] at hh'
      exact hw1.turned hex (Put.here (b := b) (B := B)) hh'
  · refine upon_val_ok hrun ⟨_, _, w'.heap, r.put hd _, hc2, ?_, h2 hno _ cap' B' hcap hf hn' g1 g2 g3⟩
    have o2 : Own h0 G fm hp := by
      rcases base with _ | ⟨b, o, B⟩
      · simpa [baseM] using hw1
      · exact Own.tail hw1
    rw [hc.1] at hh ⊢
    exact o2.pushed hex B' hh

theorem ro_appendMZ {x y : Operand} {ats : Array TypeId} {T1 e s len k : Nat} {v : Value} {cl : Nat → Value} {zs : List Value} {sm fm : Mem} (hx : ev f x = v) (hT : ats[0]? = some T) (hTe : TyC.tk P T = .sl e) (hs : TyC.sz P e = s + 1)
    (hz : zeroL P e = some zs) (hby : TyC.by_ P e ≤ 64) (hT1 : ats[1]? = some T1) (hT1' : TyC.tk P T1 = .int .i64)
    (hsl : SlM (s + 1) v len cl sm) (hm : m.Perm (sm ++ fm)) (hy : ev f y = .int .i64 (k : Int)) (hone : ∀ j, j < k * (s + 1) → one1 ((zerosG zs) j) = true) (hk : len + k ≤ 2 ^ 40) (hex : h0.ex = false) (hd : dstOk n d = true)
    (h : ∀ v' sm', SlM (s + 1) v' (len + k) (fun i => if i < len * (s + 1) then cl i else (zerosG zs) (i - len * (s + 1))) sm' → RO P G qs c n h0 ops Q rest (updo f d v') (sm' ++ fm)) :
    RO P G qs c n h0 ops Q (⟨d, .call ⟨.builtin .append, #[x, y], ats⟩, tt, pos, aft, none⟩ :: rest) f m := by
  have hmul : (len + k) * (s + 1) = len * (s + 1) + k * (s + 1) := Nat.add_mul _ _ _
  rcases hsl with ⟨rfl, rfl, rfl⟩ | ⟨b, o, cap, B, rfl, rfl, hf, ho, hlc, hcl⟩
  · refine ro_appZCore (base := none) (cap := 0) hx hT hTe hs hz hby hT1 hT1' hm ⟨rfl, rfl⟩ hy hone hk hex hd (fun hr => ?_) (fun hr b' cap' B' h1 h2 h3 h4 h5 h6 => ?_)
    · obtain rfl : k = 0 := by omega
      exact h (.slice none 0 0) [] (.inl ⟨rfl, rfl, rfl⟩)
    · refine h _ [(b', B')] (.inr ⟨b', 0, cap', B', rfl, rfl, h2, by omega, h1, fun i hi => ?_⟩)
      simp only [Nat.zero_mul, Nat.not_lt_zero, if_false, Nat.zero_add, Nat.sub_zero] at h5 hi ⊢
      exact h5 i hi
  · refine ro_appZCore (base := some (b, o, B)) hx hT hTe hs hz hby hT1 hT1' hm ⟨hf, ho, hlc⟩ hy hone hk hex hd (fun hr => ?_) (fun hr b' cap' B' h1 h2 h3 h4 h5 h6 => ?_)
    · refine h _ [(b, _)] (.inr ⟨b, o, cap, _, rfl, rfl, hf, ho, hr, fun i hi => ?_⟩)
      simp only
      split
      · rw [blit_out _ _ _ _ _ (by omega)]; exact hcl i (by assumption)
      · rw [blit_in _ _ _ _ _ (by omega) (by omega)]; congr 1; omega
    · refine h _ [(b', B')] (.inr ⟨b', 0, cap', B', rfl, rfl, h2, by omega, h1, fun i hi => ?_⟩)
      rw [Nat.zero_add]
      show B'.g i = if i < len * (s + 1) then cl i else (zerosG zs) (i - len * (s + 1))
      by_cases h7 : i < len * (s + 1)
      · rw [h4 i h7, if_pos h7]; exact hcl i h7
      · rw [if_neg h7]
        have := h5 (i - len * (s + 1)) (by omega)
        rw [show len * (s + 1) + (i - len * (s + 1)) = i by omega] at this
        exact this

theorem ro_appendBZ0 {x y : Operand} {ats : Array TypeId} {T1 e len k : Nat} {v : Value} {S : Nat → Value} {sm fm : Mem} (hx : ev f x = v) (hT : ats[0]? = some T) (hTe : TyC.tk P T = .sl e) (hs : TyC.sz P e = 1)
    (hz : zeroL P e = some [.int .u8 0]) (hby : TyC.by_ P e ≤ 64) (hT1 : ats[1]? = some T1) (hT1' : TyC.tk P T1 = .int .i64)
    (hsl : BufM v len S sm) (hm : m.Perm (sm ++ fm)) (hy : ev f y = .int .i64 (k : Int)) (hk : len + k ≤ 2 ^ 40) (hex : h0.ex = false) (hd : dstOk n d = true)
    (h : ∀ v' sm', BufM v' (len + k) (blit S len k (zerosG [.int .u8 0])) sm' → RO P G qs c n h0 ops Q rest (updo f d v') (sm' ++ fm)) :
    RO P G qs c n h0 ops Q (⟨d, .call ⟨.builtin .append, #[x, y], ats⟩, tt, pos, aft, none⟩ :: rest) f m := by
  have hz0 : ∀ i, zerosG [.int .u8 0] i = .int .u8 0 := fun i => by simp [zerosG, Nat.mod_one]
  have hone : ∀ j, j < k → one1 (zerosG [.int .u8 0] j) = true := fun j _ => by rw [hz0]; rfl
  rcases hsl with ⟨rfl, rfl, rfl, hS⟩ | ⟨b, cap, B, rfl, rfl, hf, ho, hlc, hcl, hS⟩
  · refine ro_appZCore (s := 0) (base := none) (cap := 0) hx hT hTe hs hz hby hT1 hT1' hm ⟨rfl, rfl⟩ hy (by simpa using hone) hk hex hd (fun hr => ?_) (fun hr b' cap' B' h1 h2 h3 h4 h5 h6 => ?_)
    · obtain rfl : k = 0 := by omega
      exact h (.slice none 0 0) [] (.inl ⟨rfl, rfl, rfl, fun i => by rw [blit_zero]; exact hS i⟩)
    · simp only [Nat.zero_add, Nat.mul_one, Nat.zero_mul, Nat.not_lt_zero] at *
      refine h _ [(b', B')] (.inr ⟨b', cap', B', rfl, rfl, h2, by omega, h1, fun i hi => ?_, fun i hi => ?_⟩)
      · by_cases hik : i < k
        · rw [blit_in _ _ _ _ _ (by omega) (by omega), h5 i hik]; rfl
        · rw [blit_out _ _ _ _ _ (by omega), h6 i (by omega) hi, hz0]; exact (hS i).symm
      · rw [blit_out _ _ _ _ _ (by omega)]; exact hS i
  · refine ro_appZCore (s := 0) (base := some (b, 0, B)) hx hT hTe hs hz hby hT1 hT1' hm ⟨hf, by omega, hlc⟩ hy (by simpa using hone) hk hex hd (fun hr => ?_) (fun hr b' cap' B' h1 h2 h3 h4 h5 h6 => ?_)
    · refine h _ [(b, _)] (.inr ⟨b, cap, _, rfl, rfl, hf, ho, hr, fun i hi => ?_, fun i hi => ?_⟩)
      · show blit B.g (0 + len * (0 + 1)) (k * (0 + 1)) (zerosG [.int .u8 0]) i = blit S len k (zerosG [.int .u8 0]) i
        rw [show 0 + len * (0 + 1) = len by omega, show k * (0 + 1) = k by omega]
        by_cases hik : len ≤ i ∧ i < len + k
        · rw [blit_in _ _ _ _ _ hik.1 hik.2, blit_in _ _ _ _ _ hik.1 hik.2]
        · rw [blit_out _ _ _ _ _ (by omega), blit_out _ _ _ _ _ (by omega)]; exact hcl i hi
      · rw [blit_out _ _ _ _ _ (by omega)]; exact hS i hi
    · simp only [Nat.zero_add, Nat.mul_one] at *
      refine h _ [(b', B')] (.inr ⟨b', cap', B', rfl, rfl, h2, by omega, h1, fun i hi => ?_, fun i hi => ?_⟩)
      · by_cases hik : len ≤ i ∧ i < len + k
        · rw [blit_in _ _ _ _ _ hik.1 hik.2]
          have := h5 (i - len) (by omega)
          rw [show len + (i - len) = i by omega] at this
          exact this
        · rw [blit_out _ _ _ _ _ (by omega)]
          by_cases hil : i < len
          · rw [h4 i hil]; simp only [baseG, Nat.zero_add]; exact hcl i (by omega)
          · rw [h6 i (by omega) hi, hz0]; exact (hS i (by omega)).symm
      · rw [blit_out _ _ _ _ _ (by omega)]; exact hS i (by omega)


theorem ro_appendBZ {x y : Operand} {ats : Array TypeId} {T1 e len k : Nat} {v : Value} {S : Nat → Value} {sm fm : Mem} (hx : ev f x = v) (hT : ats[0]? = some T) (hTe : TyC.tk P T = .sl e) (hs : TyC.sz P e = 1)
    (hz : zeroL P e = some [.int .u8 0]) (hby : TyC.by_ P e ≤ 64) (hT1 : ats[1]? = some T1) (hT1' : TyC.tk P T1 = .int .i64)
    (hsl : BufM v len S sm) (hm : m.Perm (sm ++ fm)) (hy : ev f y = .int .i64 (k : Int)) (hk : len + k ≤ 2 ^ 40) (hex : h0.ex = false) (hd : dstOk n d = true)
    (h : ∀ v' sm', BufM v' (len + k) (blit S len k (fun _ => .int .u8 0)) sm' → RO P G qs c n h0 ops Q rest (updo f d v') (sm' ++ fm)) :
    RO P G qs c n h0 ops Q (⟨d, .call ⟨.builtin .append, #[x, y], ats⟩, tt, pos, aft, none⟩ :: rest) f m := by
  have hz0 : zerosG [.int .u8 0] = fun _ => .int .u8 0 := by funext i; simp [zerosG, Nat.mod_one]
  exact ro_appendBZ0 hx hT hTe hs hz hby hT1 hT1' hsl hm hy hk hex hd (by rw [hz0]; exact h)


/-! Parts of slices and arrays, in naturals -/
theorem ro_slB {x : Operand} {hi : Option Operand} {b o len cap e s h : Nat} {H : Int} (hx : ev f x = .slice (some ⟨b, o, none⟩) len cap) (hT : TyC.tk P T = .sl e) (hs : TyC.sz P e = s + 1)
    (hh : optInt f hi len = some H) (hH : H = (h : Int)) (h2 : h ≤ cap) (hd : dstOk n d = true)
    (hk : RO P G qs c n h0 ops Q rest (updo f d (.slice (some ⟨b, o, none⟩) h cap)) m) :
    RO P G qs c n h0 ops Q (⟨d, .slice T x none hi none, tt, pos, aft, none⟩ :: rest) f m := by
  subst hH; exact ro_slTo h hx hT hs hh h2 hd hk
theorem ro_slA {x : Operand} {lo hi : Option Operand} {b o len cap e l h : Nat} {L H : Int} (hx : ev f x = .slice (some ⟨b, o, none⟩) len cap) (hT : TyC.tk P T = .sl e) (hs : TyC.sz P e = 1)
    (hl : optInt f lo 0 = some L) (hh : optInt f hi len = some H) (hL : L = (l : Int)) (hH : H = (h : Int)) (h1 : l ≤ h) (h2 : h ≤ cap) (h3 : l < cap) (hd : dstOk n d = true)
    (hk : RO P G qs c n h0 ops Q rest (updo f d (.slice (some ⟨b, o + l, none⟩) (h - l) (cap - l))) m) :
    RO P G qs c n h0 ops Q (⟨d, .slice T x lo hi none, tt, pos, aft, none⟩ :: rest) f m := by
  subst hL hH; exact ro_sl l h hx hT hs hl hh h1 h2 h3 hd hk
/-- .. that may begin at its end. -/
theorem ro_slN (l h : Nat) {x : Operand} {lo hi : Option Operand} {b o len cap e s : Nat} {L H : Int} (hx : ev f x = .slice (some ⟨b, o, none⟩) len cap) (hT : TyC.tk P T = .sl e) (hs : TyC.sz P e = s + 1)
    (hl : optInt f lo 0 = some L) (hh : optInt f hi len = some H) (hL : L = (l : Int)) (hH : H = (h : Int)) (h1 : l ≤ h) (h2 : h ≤ cap) (hd : dstOk n d = true)
    (hk : RO P G qs c n h0 ops Q rest (updo f d (.slice (some ⟨b, sOff o l (s + 1) cap, none⟩) (h - l) (cap - l))) m) :
    RO P G qs c n h0 ops Q (⟨d, .slice T x lo hi none, tt, pos, aft, none⟩ :: rest) f m := by
  subst hL hH
  refine ro_slice (s := s) hx hT hs hl hh (by omega) (by omega) (by omega) hd ?_
  simpa using hk
theorem ro_arrB {x : Operand} {hi : Option Operand} {b o k e s h : Nat} {H : Int} (hx : ev f x = .pointer (some ⟨b, o, none⟩)) (hT : TyC.tk P T = .arr k e) (hs : TyC.sz P e = s + 1)
    (hh : optInt f hi k = some H) (hH : H = (h : Int)) (h2 : h ≤ k) (hd : dstOk n d = true)
    (hk : RO P G qs c n h0 ops Q rest (updo f d (.slice (some ⟨b, o, none⟩) h k)) m) :
    RO P G qs c n h0 ops Q (⟨d, .slice T x none hi none, tt, pos, aft, none⟩ :: rest) f m := by
  subst hH; exact ro_arrTo h hx hT hs hh h2 hd hk
theorem ro_arrA {x : Operand} {lo hi : Option Operand} {b o k e l h : Nat} {L H : Int} (hx : ev f x = .pointer (some ⟨b, o, none⟩)) (hT : TyC.tk P T = .arr k e) (hs : TyC.sz P e = 1)
    (hl : optInt f lo 0 = some L) (hh : optInt f hi k = some H) (hL : L = (l : Int)) (hH : H = (h : Int)) (h1 : l ≤ h) (h2 : h ≤ k) (h3 : l < k) (hd : dstOk n d = true)
    (hk : RO P G qs c n h0 ops Q rest (updo f d (.slice (some ⟨b, o + l, none⟩) (h - l) (k - l))) m) :
    RO P G qs c n h0 ops Q (⟨d, .slice T x lo hi none, tt, pos, aft, none⟩ :: rest) f m := by
  subst hL hH; exact ro_arr l h hx hT hs hl hh h1 h2 h3 hd hk

omit ty in
/-- The blocks written otherwise, within a region. -/
theorem RO_eqv {m' : Mem} (e : MEqv m m') : ∀ {l : List Oper} {f : Fr}, (∀ f, Q f m' → Q f m) → RO P G qs c n h0 ops Q l f m' → RO P G qs c n h0 ops Q l f m
  | [], _, hQ, h => hQ _ h
  | o :: rest, f, hQ, h => by
    obtain ⟨hd, h⟩ := h
    refine ⟨hd, ?_⟩
    rcases h with ⟨hw, h⟩ | ⟨hw, h⟩
    · refine .inl ⟨hw, ?_⟩
      split
      · rename_i h0'
        rw [if_pos h0'] at h
        obtain ⟨v, hv, hK⟩ := h
        exact ⟨v, hv, RO_eqv e hQ hK⟩
      · rename_i h0'
        rw [if_neg h0'] at h
        split
        · rename_i h1
          rw [if_pos h1] at h
          obtain ⟨v, hv, hK⟩ := h
          exact ⟨v, fun h w ho => hv h w (ho.eqv e), RO_eqv e hQ hK⟩
        · rename_i h1
          rw [if_neg h1] at h
          exact fun hp w ho => h hp w (ho.eqv e)
    · exact .inr ⟨hw, RO_eqv e hQ h⟩

theorem one_of_slm {s len : Nat} {v : Value} {cl : Nat → Value} {sm : Mem} (h : SlM s v len cl sm) : one1 v = true := by
  rcases h with ⟨rfl, _⟩ | ⟨b, o, cp, B, rfl, _⟩ <;> rfl
theorem one_of_buf {len : Nat} {v : Value} {S : Nat → Value} {sm : Mem} (h : BufM v len S sm) : one1 v = true := by
  rcases h with ⟨rfl, _⟩ | ⟨b, cp, B, rfl, _⟩ <;> rfl
omit ty in
theorem ends_eqv {fn : Func} {R : Value → Mem → Prop} {e : Exit} {m' : Mem} (q : MEqv m m') (h : Ends P G c fn h0 R e f m') : Ends P G c fn h0 R e f m := by
  cases e <;> first | exact h.elim | skip
  · obtain ⟨v, post, junk, h1, h2, h3⟩ := h
    exact ⟨v, post, junk, fun a w hp r hc o => h1 a w hp r hc (o.eqv q), q.trans h2, h3⟩
  · obtain ⟨v, post, junk, h1, h2, h3⟩ := h
    exact ⟨v, post, junk, fun a w hp r hc o => h1 a w hp r hc (o.eqv q), q.trans h2, h3⟩
/-! .. with the other blocks ahead -/
theorem ro_appendMF {x y : Operand} {ats : Array TypeId} {T1 e s len k : Nat} {v : Value} {cl src : Nat → Value} {zs : List Value} {sm fm : Mem} (hx : ev f x = v) (hT : ats[0]? = some T) (hTe : TyC.tk P T = .sl e) (hs : TyC.sz P e = s + 1)
    (hz : zeroL P e = some zs) (hby : TyC.by_ P e ≤ 64) (hT1 : ats[1]? = some T1) (hT1' : isSl (TyC.tk P T1) = true)
    (hsl : SlM (s + 1) v len cl sm) (hm : m.Perm (sm ++ fm)) (hsrc : Src (m ++ G) (s + 1) (ev f y) k src) (hone : ∀ j, j < k * (s + 1) → one1 (src j) = true) (hk : len + k ≤ 2 ^ 40) (hex : h0.ex = false) (hd : dstOk n d = true)
    (h : ∀ v' sm', SlM (s + 1) v' (len + k) (fun i => if i < len * (s + 1) then cl i else src (i - len * (s + 1))) sm' → one1 v' = true → RO P G qs c n h0 ops Q rest (updo f d v') (fm ++ sm'))
    (hQ : ∀ f m m', MEqv m m' → Q f m' → Q f m := by first | exact fun _ _ _ e h => J_eqv e h | exact fun _ _ _ e h => ends_eqv e h) :
    RO P G qs c n h0 ops Q (⟨d, .call ⟨.builtin .append, #[x, y], ats⟩, tt, pos, aft, none⟩ :: rest) f m :=
  ro_appendM hx hT hTe hs hz hby hT1 hT1' hsl hm hsrc hone hk hex hd fun v' sm' hv => RO_eqv (.of_perm List.perm_append_comm) (fun f => hQ f _ _ (.of_perm List.perm_append_comm)) (h v' sm' hv (one_of_slm hv))

theorem ro_appendBF {x y : Operand} {ats : Array TypeId} {T1 e len k : Nat} {v : Value} {S src : Nat → Value} {sm fm : Mem} (hx : ev f x = v) (hT : ats[0]? = some T) (hTe : TyC.tk P T = .sl e) (hs : TyC.sz P e = 1)
    (hz : zeroL P e = some [.int .u8 0]) (hby : TyC.by_ P e ≤ 64) (hT1 : ats[1]? = some T1) (hT1' : isSl (TyC.tk P T1) = true)
    (hsl : BufM v len S sm) (hm : m.Perm (sm ++ fm)) (hsrc : Src (m ++ G) 1 (ev f y) k src) (hone : ∀ j, j < k → one1 (src j) = true) (hk : len + k ≤ 2 ^ 40) (hex : h0.ex = false) (hd : dstOk n d = true)
    (h : ∀ v' sm', BufM v' (len + k) (blit S len k src) sm' → one1 v' = true → RO P G qs c n h0 ops Q rest (updo f d v') (fm ++ sm'))
    (hQ : ∀ f m m', MEqv m m' → Q f m' → Q f m := by first | exact fun _ _ _ e h => J_eqv e h | exact fun _ _ _ e h => ends_eqv e h) :
    RO P G qs c n h0 ops Q (⟨d, .call ⟨.builtin .append, #[x, y], ats⟩, tt, pos, aft, none⟩ :: rest) f m :=
  ro_appendB hx hT hTe hs hz hby hT1 hT1' hsl hm hsrc hone hk hex hd fun v' sm' hv => RO_eqv (.of_perm List.perm_append_comm) (fun f => hQ f _ _ (.of_perm List.perm_append_comm)) (h v' sm' hv (one_of_buf hv))

theorem ro_appendMZF {x y : Operand} {ats : Array TypeId} {T1 e s len k : Nat} {v : Value} {cl : Nat → Value} {zs : List Value} {sm fm : Mem} (hx : ev f x = v) (hT : ats[0]? = some T) (hTe : TyC.tk P T = .sl e) (hs : TyC.sz P e = s + 1)
    (hz : zeroL P e = some zs) (hby : TyC.by_ P e ≤ 64) (hT1 : ats[1]? = some T1) (hT1' : TyC.tk P T1 = .int .i64)
    (hsl : SlM (s + 1) v len cl sm) (hm : m.Perm (sm ++ fm)) (hy : ev f y = .int .i64 (k : Int)) (hone : ∀ j, j < k * (s + 1) → one1 ((zerosG zs) j) = true) (hk : len + k ≤ 2 ^ 40) (hex : h0.ex = false) (hd : dstOk n d = true)
    (h : ∀ v' sm', SlM (s + 1) v' (len + k) (fun i => if i < len * (s + 1) then cl i else (zerosG zs) (i - len * (s + 1))) sm' → one1 v' = true → RO P G qs c n h0 ops Q rest (updo f d v') (fm ++ sm'))
    (hQ : ∀ f m m', MEqv m m' → Q f m' → Q f m := by first | exact fun _ _ _ e h => J_eqv e h | exact fun _ _ _ e h => ends_eqv e h) :
    RO P G qs c n h0 ops Q (⟨d, .call ⟨.builtin .append, #[x, y], ats⟩, tt, pos, aft, none⟩ :: rest) f m :=
  ro_appendMZ hx hT hTe hs hz hby hT1 hT1' hsl hm hy hone hk hex hd fun v' sm' hv => RO_eqv (.of_perm List.perm_append_comm) (fun f => hQ f _ _ (.of_perm List.perm_append_comm)) (h v' sm' hv (one_of_slm hv))

theorem ro_appendBZF {x y : Operand} {ats : Array TypeId} {T1 e len k : Nat} {v : Value} {S : Nat → Value} {sm fm : Mem} (hx : ev f x = v) (hT : ats[0]? = some T) (hTe : TyC.tk P T = .sl e) (hs : TyC.sz P e = 1)
    (hz : zeroL P e = some [.int .u8 0]) (hby : TyC.by_ P e ≤ 64) (hT1 : ats[1]? = some T1) (hT1' : TyC.tk P T1 = .int .i64)
    (hsl : BufM v len S sm) (hm : m.Perm (sm ++ fm)) (hy : ev f y = .int .i64 (k : Int)) (hk : len + k ≤ 2 ^ 40) (hex : h0.ex = false) (hd : dstOk n d = true)
    (h : ∀ v' sm', BufM v' (len + k) (blit S len k (fun _ => .int .u8 0)) sm' → one1 v' = true → RO P G qs c n h0 ops Q rest (updo f d v') (fm ++ sm'))
    (hQ : ∀ f m m', MEqv m m' → Q f m' → Q f m := by first | exact fun _ _ _ e h => J_eqv e h | exact fun _ _ _ e h => ends_eqv e h) :
    RO P G qs c n h0 ops Q (⟨d, .call ⟨.builtin .append, #[x, y], ats⟩, tt, pos, aft, none⟩ :: rest) f m :=
  ro_appendBZ hx hT hTe hs hz hby hT1 hT1' hsl hm hy hk hex hd fun v' sm' hv => RO_eqv (.of_perm List.perm_append_comm) (fun f => hQ f _ _ (.of_perm List.perm_append_comm)) (h v' sm' hv (one_of_buf hv))


end
end Go.Eng
