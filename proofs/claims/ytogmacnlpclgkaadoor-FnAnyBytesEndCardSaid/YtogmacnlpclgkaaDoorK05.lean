/-
  TEXTS MERGED: Eng7.
-/
import Derived.Test.YtogmacnlpclgkaaDoorK04
/-! AN ENGINE OF WALKS, PART 7: append, copy, clear, make as rules; struct values; interface values; results. -/
namespace Go.Eng
open Go

/-- A slice, nil or not, with its block: len elements of s cells, whose cells are cl's. -/
def SlM (s : Nat) (v : Value) (len : Nat) (cl : Nat → Value) (sm : Mem) : Prop :=
  (v = .slice none 0 0 ∧ len = 0 ∧ sm = []) ∨
  ∃ b o cap B, v = .slice (some ⟨b, o, none⟩) len cap ∧ sm = [(b, B)] ∧ B.fr = (0, 0) ∧ o + cap * s ≤ B.n ∧ len ≤ cap ∧ ∀ i, i < len * s → B.g (o + i) = cl i

/-- A buffer of bytes, nil or not, with its block, and what it holds to its capacity and beyond (zeros). -/
def BufM (v : Value) (len : Nat) (S : Nat → Value) (sm : Mem) : Prop :=
  (v = .slice none 0 0 ∧ len = 0 ∧ sm = [] ∧ ∀ i, S i = .int .u8 0) ∨
  ∃ b cap B, v = .slice (some ⟨b, 0, none⟩) len cap ∧ sm = [(b, B)] ∧ B.fr = (0, 0) ∧ cap ≤ B.n ∧ len ≤ cap ∧ (∀ i, i < cap → B.g i = S i) ∧ ∀ i, cap ≤ i → S i = .int .u8 0

theorem Src.of {M : Mem} {s k b o cp : Nat} {B : Blk} (hb : (b, B) ∈ M) (ho : o + k * s ≤ B.n) : Src M s (.slice (some ⟨b, o, none⟩) k cp) k fun j => B.g (o + j) :=
  .inl ⟨b, o, cp, B, rfl, hb, ho, rfl⟩

section
variable {P : Program} [ty : TyC P] {G : Mem} {qs : List FuncId} {c : World} {n : Nat} {h0 : Base} {ops : Array Oper} {Q : Fr → Mem → Prop} {rest : List Oper} {f : Fr} {m : Mem}
variable {d : Option Tmp} {T T' tt : TypeId} {pos : String} {aft : Array Edge}

omit ty in
theorem ro_perm {l : List Oper} {m' : Mem} (hp : m.Perm m') (h : RO P G qs c n h0 ops Q l f m') (hQ : ∀ f m m', m.Perm m' → Q f m → Q f m') : RO P G qs c n h0 ops Q l f m := by
  induction l generalizing f m m' with
  | nil => exact hQ _ _ _ hp.symm h
  | cons o l ih =>
    obtain ⟨hd, h⟩ := h
    refine ⟨hd, h.imp ?_ ?_⟩
    · rintro ⟨hw, h⟩
      refine ⟨hw, ?_⟩
      split
      · rename_i h1; rw [if_pos h1] at h; obtain ⟨v, hv, h⟩ := h; exact ⟨v, hv, ih hp h⟩
      · rename_i h1; rw [if_neg h1] at h
        split
        · rename_i h2; rw [if_pos h2] at h; obtain ⟨v, hv, h⟩ := h; exact ⟨v, fun hh w ho hc => hv hh w (ho.perm hp) hc, ih hp h⟩
        · rename_i h2; rw [if_neg h2] at h; exact fun hh w ho hc a r => h hh w (ho.perm hp) hc a r
    · rintro ⟨hw, h⟩; exact ⟨hw, ih hp h⟩

theorem Own.ne {h : Heap} (o : Own h0 G m h) {p q : Nat × Blk} {l1 l2 l3 : Mem} (e : m ++ G = l1 ++ p :: l2 ++ q :: l3) : p.1 ≠ q.1 := by
  have := o.nodup
  rw [e] at this
  simp only [List.map_append, List.map_cons, List.nodup_append, List.nodup_cons, List.mem_append, List.mem_cons] at this
  intro he
  exact this.2.2 p.1 (by simp) q.1 (by simp) he

def baseM : Option (Nat × Nat × Blk) → Mem
  | none => []
  | some (b, _, B) => [(b, B)]

def BaseFit (s len cap : Nat) : Option (Nat × Nat × Blk) → Prop
  | none => len = 0 ∧ cap = 0
  | some (_, o, B) => B.fr = (0, 0) ∧ o + cap * (s + 1) ≤ B.n ∧ len ≤ cap
def basePut (s len k : Nat) (src : Nat → Value) : Option (Nat × Nat × Blk) → Mem
  | none => []
  | some (b, o, B) => [(b, ⟨B.n, blit B.g (o + len * (s + 1)) (k * (s + 1)) src, B.T, B.fr⟩)]

omit ty in
theorem Own.pushed {h h' : Heap} (o : Own h0 G m h) (hex : h0.ex = false) (B : Blk) (e : h' = h.push B.obj) : Own h0 G ((h.size, B) :: m) h' := by subst e; exact o.push hex B
/-- append, with room (h1) or without (h2). -/
theorem ro_appCore {x y : Operand} {ats : Array TypeId} {T1 e s len cap k : Nat} {src : Nat → Value} {zs : List Value} {base : Option (Nat × Nat × Blk)} {fm : Mem} (hx : ev f x = .slice (baseA base) len cap) (hT : ats[0]? = some T) (hTe : TyC.tk P T = .sl e) (hs : TyC.sz P e = s + 1)
    (hz : zeroL P e = some zs) (hby : TyC.by_ P e ≤ 64) (hT1 : ats[1]? = some T1) (hT1' : isSl (TyC.tk P T1) = true)
    (hm : m.Perm (baseM base ++ fm)) (ha : BaseFit s len cap base)
    (hsrc : Src (m ++ G) (s + 1) (ev f y) k src) (hone : ∀ j, j < k * (s + 1) → one1 (src j) = true) (hk : len + k ≤ 2 ^ 40) (hex : h0.ex = false) (hd : dstOk n d = true)
    (h1 : len + k ≤ cap → RO P G qs c n h0 ops Q rest (updo f d (.slice (baseA base) (len + k) cap)) (basePut s len k src base ++ fm))
    (h2 : cap < len + k → ∀ b' cap' B', len + k ≤ cap' → B'.fr = (0, 0) → B'.n = cap' * (s + 1) → (∀ i, i < len * (s + 1) → B'.g i = baseG base i) → (∀ i, i < k * (s + 1) → B'.g (len * (s + 1) + i) = src i) →
      (∀ i, (len + k) * (s + 1) ≤ i → i < cap' * (s + 1) → B'.g i = zerosG zs (i - (len + k) * (s + 1))) → RO P G qs c n h0 ops Q rest (updo f d (.slice (some ⟨b', 0, none⟩) (len + k) cap')) ((b', B') :: fm)) :
    RO P G qs c n h0 ops Q (⟨d, .call ⟨.builtin .append, #[x, y], ats⟩, tt, pos, aft, none⟩ :: rest) f m := by
  refine ro_eff rfl rfl hd fun hp w hw hc a r => ?_
  have hw1 := hw.perm hm
  have hM : ∀ p ∈ m ++ G, w.heap[p.1]? = some p.2.obj := fun p hp' => by rw [hc.1]; exact hw.has p hp'
  have hc' : At c w.heap w := ⟨rfl, hc.2⟩
  have hha : BaseIn w.heap s len cap k src base := by
    rcases base with _ | ⟨b, o, B⟩
    · exact ha
    · refine ⟨?_, ha.1, ha.2.1, ha.2.2, hone⟩
      rw [hc.1]; exact hw1.has (b, B) (by simp [baseM])
  obtain ⟨v', w', hr, hc2, hcase⟩ := run_append (P := P) (tt := tt) (base := base) hT hTe hs hz hby ⟨T1, hT1, hT1'⟩ rfl hsrc hM hk hc' hha
  have hrun : (execOp a.eval ⟨d, .call ⟨.builtin .append, #[x, y], ats⟩, tt, pos, aft, none⟩).run P w = .ok (.value v') w' := by
    rw [r.eval]
    simp only [execOp, resolve, Sem.run_bind, Sem.run_pure, Result.andThen_ok, invoke, builtin]
    rw [show (#[x, y].map (ev f)) = #[ev f x, ev f y] by simp, hx, hr]
    rfl
  rcases hcase with ⟨hroom, rfl, hh⟩ | ⟨hno, cap', hcap, rfl, B', hh, hf, hn', g1, g2, g3⟩
  · refine upon_val_ok hrun ⟨_, _, w'.heap, r.put hd _, hc2, ?_, h1 hroom⟩
    rcases base with _ | ⟨b, o, B⟩
    · have hh' : w'.heap = w.heap := hh
      rw [hh', hc.1]
      simpa [baseM, basePut] using hw1
    · have hh' : Turned w.heap b _ w'.heap := hh
      rw [hc.1] at hh'
      exact hw1.turned hex (Put.here (b := b) (B := B)) hh'
  · refine upon_val_ok hrun ⟨_, _, w'.heap, r.put hd _, hc2, ?_, h2 hno _ cap' B' hcap hf hn' g1 g2 g3⟩
    have o2 : Own h0 G fm hp := by
      rcases base with _ | ⟨b, o, B⟩
      · simpa [baseM] using hw1
      · exact Own.tail hw1
    rw [hc.1] at hh ⊢
    exact o2.pushed hex B' hh

theorem ro_appendM {x y : Operand} {ats : Array TypeId} {T1 e s len k : Nat} {v : Value} {cl src : Nat → Value} {zs : List Value} {sm fm : Mem} (hx : ev f x = v) (hT : ats[0]? = some T) (hTe : TyC.tk P T = .sl e) (hs : TyC.sz P e = s + 1)
    (hz : zeroL P e = some zs) (hby : TyC.by_ P e ≤ 64) (hT1 : ats[1]? = some T1) (hT1' : isSl (TyC.tk P T1) = true)
    (hsl : SlM (s + 1) v len cl sm) (hm : m.Perm (sm ++ fm)) (hsrc : Src (m ++ G) (s + 1) (ev f y) k src) (hone : ∀ j, j < k * (s + 1) → one1 (src j) = true) (hk : len + k ≤ 2 ^ 40) (hex : h0.ex = false) (hd : dstOk n d = true)
    (h : ∀ v' sm', SlM (s + 1) v' (len + k) (fun i => if i < len * (s + 1) then cl i else src (i - len * (s + 1))) sm' → RO P G qs c n h0 ops Q rest (updo f d v') (sm' ++ fm)) :
    RO P G qs c n h0 ops Q (⟨d, .call ⟨.builtin .append, #[x, y], ats⟩, tt, pos, aft, none⟩ :: rest) f m := by
  have hmul : (len + k) * (s + 1) = len * (s + 1) + k * (s + 1) := Nat.add_mul _ _ _
  rcases hsl with ⟨rfl, rfl, rfl⟩ | ⟨b, o, cap, B, rfl, rfl, hf, ho, hlc, hcl⟩
  · refine ro_appCore (base := none) (cap := 0) hx hT hTe hs hz hby hT1 hT1' hm ⟨rfl, rfl⟩ hsrc hone hk hex hd (fun hr => ?_) (fun hr b' cap' B' h1 h2 h3 h4 h5 h6 => ?_)
    · obtain rfl : k = 0 := by omega
      exact h (.slice none 0 0) [] (.inl ⟨rfl, rfl, rfl⟩)
    · refine h _ [(b', B')] (.inr ⟨b', 0, cap', B', rfl, rfl, h2, by omega, h1, fun i hi => ?_⟩)
      simp only [Nat.zero_mul, Nat.not_lt_zero, if_false, Nat.zero_add, Nat.sub_zero] at h5 hi ⊢
      exact h5 i hi
  · refine ro_appCore (base := some (b, o, B)) hx hT hTe hs hz hby hT1 hT1' hm ⟨hf, ho, hlc⟩ hsrc hone hk hex hd (fun hr => ?_) (fun hr b' cap' B' h1 h2 h3 h4 h5 h6 => ?_)
    · refine h _ [(b, _)] (.inr ⟨b, o, cap, _, rfl, rfl, hf, ho, hr, fun i hi => ?_⟩)
      simp only
      split
      · rw [blit_out _ _ _ _ _ (by omega)]; exact hcl i (by assumption)
      · rw [blit_in _ _ _ _ _ (by omega) (by omega)]; congr 1; omega
    · refine h _ [(b', B')] (.inr ⟨b', 0, cap', B', rfl, rfl, h2, by omega, h1, fun i hi => ?_⟩)
      rw [Nat.zero_add]
      show B'.g i = if i < len * (s + 1) then cl i else src (i - len * (s + 1))
      by_cases h7 : i < len * (s + 1)
      · rw [h4 i h7, if_pos h7]; exact hcl i h7
      · rw [if_neg h7]
        have := h5 (i - len * (s + 1)) (by omega)
        rw [show len * (s + 1) + (i - len * (s + 1)) = i by omega] at this
        exact this

theorem ro_appendB {x y : Operand} {ats : Array TypeId} {T1 e len k : Nat} {v : Value} {S src : Nat → Value} {sm fm : Mem} (hx : ev f x = v) (hT : ats[0]? = some T) (hTe : TyC.tk P T = .sl e) (hs : TyC.sz P e = 1)
    (hz : zeroL P e = some [.int .u8 0]) (hby : TyC.by_ P e ≤ 64) (hT1 : ats[1]? = some T1) (hT1' : isSl (TyC.tk P T1) = true)
    (hsl : BufM v len S sm) (hm : m.Perm (sm ++ fm)) (hsrc : Src (m ++ G) 1 (ev f y) k src) (hone : ∀ j, j < k → one1 (src j) = true) (hk : len + k ≤ 2 ^ 40) (hex : h0.ex = false) (hd : dstOk n d = true)
    (h : ∀ v' sm', BufM v' (len + k) (blit S len k src) sm' → RO P G qs c n h0 ops Q rest (updo f d v') (sm' ++ fm)) :
    RO P G qs c n h0 ops Q (⟨d, .call ⟨.builtin .append, #[x, y], ats⟩, tt, pos, aft, none⟩ :: rest) f m := by
  have hz0 : ∀ i, zerosG [.int .u8 0] i = .int .u8 0 := fun i => by simp [zerosG, Nat.mod_one]
  rcases hsl with ⟨rfl, rfl, rfl, hS⟩ | ⟨b, cap, B, rfl, rfl, hf, ho, hlc, hcl, hS⟩
  · refine ro_appCore (s := 0) (base := none) (cap := 0) hx hT hTe hs hz hby hT1 hT1' hm ⟨rfl, rfl⟩ hsrc (by simpa using hone) hk hex hd (fun hr => ?_) (fun hr b' cap' B' h1 h2 h3 h4 h5 h6 => ?_)
    · obtain rfl : k = 0 := by omega
      exact h (.slice none 0 0) [] (.inl ⟨rfl, rfl, rfl, fun i => by rw [blit_zero]; exact hS i⟩)
    · simp only [Nat.zero_add, Nat.mul_one, Nat.zero_mul, Nat.not_lt_zero] at *
      refine h _ [(b', B')] (.inr ⟨b', cap', B', rfl, rfl, h2, by omega, h1, fun i hi => ?_, fun i hi => ?_⟩)
      · by_cases hik : i < k
        · rw [blit_in _ _ _ _ _ (by omega) (by omega), h5 i hik]; rfl
        · rw [blit_out _ _ _ _ _ (by omega), h6 i (by omega) hi, hz0]; exact (hS i).symm
      · rw [blit_out _ _ _ _ _ (by omega)]; exact hS i
  · refine ro_appCore (s := 0) (base := some (b, 0, B)) hx hT hTe hs hz hby hT1 hT1' hm ⟨hf, by omega, hlc⟩ hsrc (by simpa using hone) hk hex hd (fun hr => ?_) (fun hr b' cap' B' h1 h2 h3 h4 h5 h6 => ?_)
    · refine h _ [(b, _)] (.inr ⟨b, cap, _, rfl, rfl, hf, ho, hr, fun i hi => ?_, fun i hi => ?_⟩)
      · show blit B.g (0 + len * (0 + 1)) (k * (0 + 1)) src i = blit S len k src i
        rw [show 0 + len * (0 + 1) = len by omega, show k * (0 + 1) = k by omega]
        by_cases hik : len ≤ i ∧ i < len + k
        · rw [blit_in _ _ _ _ _ hik.1 hik.2, blit_in _ _ _ _ _ hik.1 hik.2]
        · rw [blit_out _ _ _ _ _ (by omega), blit_out _ _ _ _ _ (by omega)]; exact hcl i hi
      · rw [blit_out _ _ _ _ _ (by omega)]; exact hS i hi
    · simp only [Nat.zero_add, Nat.mul_one] at *
      refine h _ [(b', B')] (.inr ⟨b', cap', B', rfl, rfl, h2, by omega, h1, fun i hi => ?_, fun i hi => ?_⟩)
      · by_cases hik : len ≤ i ∧ i < len + k
        · rw [blit_in _ _ _ _ _ hik.1 hik.2]
          have := h5 (i - len) (by omega)
          rw [show len + (i - len) = i by omega] at this
          exact this
        · rw [blit_out _ _ _ _ _ (by omega)]
          by_cases hil : i < len
          · rw [h4 i hil]; simp only [baseG, Nat.zero_add]; exact hcl i (by omega)
          · rw [h6 i (by omega) hi, hz0]; exact (hS i (by omega)).symm
      · rw [blit_out _ _ _ _ _ (by omega)]; exact hS i (by omega)

theorem ro_copy {x y : Operand} {ats : Array TypeId} {e s b o dl dc k : Nat} {src : Nat → Value} {B : Blk} {m' : Mem} (hx : ev f x = .slice (some ⟨b, o, none⟩) dl dc) (hT : ats[0]? = some T) (hTe : TyC.tk P T = .sl e) (hs : TyC.sz P e = s + 1)
    (hsrc : Src (m ++ G) (s + 1) (ev f y) k src) (hone : ∀ j, j < (min k dl) * (s + 1) → one1 (src j) = true) (hm : Put m b B ⟨B.n, blit B.g o ((min k dl) * (s + 1)) src, B.T, B.fr⟩ m') (hf : B.fr = (0, 0)) (ho : o + dl * (s + 1) ≤ B.n) (hex : h0.ex = false) (hd : dstOk n d = true)
    (h : RO P G qs c n h0 ops Q rest (updo f d (.int .i64 (min k dl : Nat))) m') :
    RO P G qs c n h0 ops Q (⟨d, .call ⟨.builtin .copy, #[x, y], ats⟩, tt, pos, aft, none⟩ :: rest) f m := by
  refine ro_eff rfl rfl hd fun hp w hw hc a r => ?_
  have hM : ∀ p ∈ m ++ G, w.heap[p.1]? = some p.2.obj := fun p hp' => by rw [hc.1]; exact hw.has p hp'
  have hb : w.heap[b]? = some B.obj := hM (b, B) (List.mem_append.2 (.inl hm.mem))
  have hc' : At c w.heap w := ⟨rfl, hc.2⟩
  obtain ⟨hlen, hcells⟩ := hsrc.run (P := P) hM
  have hnew := hcells (min k dl) (Nat.min_le_left _ _)
  have hle : (min k dl) * (s + 1) ≤ dl * (s + 1) := Nat.mul_le_mul_right _ (Nat.min_le_right _ _)
  obtain ⟨w', hr, hc2, t⟩ := run_storeCells_blk (P := P) (tabL ((min k dl) * (s + 1)) src) 0 (o := o) hb hf (by rw [tabL_length]; omega) (fun v hv => by
        obtain ⟨j, hj⟩ := List.mem_iff_getElem?.1 hv
        have hjl : j < (min k dl) * (s + 1) := by
          have := (List.getElem?_eq_some_iff.1 hj).1; rwa [tabL_length] at this
        rw [tabL_get _ _ _ hjl] at hj
        cases hj
        exact hone j hjl) hc'
  refine upon_val_ok (v := .int .i64 (min k dl : Nat)) (w' := w') ?_ ⟨_, _, w'.heap, r.put hd _, hc2, ?_, h⟩
  · rw [r.eval]
    have hmin : Nat.min k dl = min k dl := rfl
    simp only [execOp, resolve, Sem.run_bind, Sem.run_pure, Result.andThen_ok, invoke, builtin, Builtin.copy_]
    rw [show (#[x, y].map (ev f)) = #[ev f x, ev f y] by simp, hx]
    simp only [List.getElem?_toArray, List.getElem?_cons_zero, List.getElem?_cons_succ, hT, Sem.run_bind, run_underlying (u_sl hTe), Result.andThen_ok, hlen, run_sizeOf hs (by omega), hmin, hnew, hr, Sem.run_pure, goInt]
  · rw [hc.1] at t
    refine hw.turned hex hm (t.congr ?_)
    unfold Blk.obj
    congr 1
    apply Blk.cells_congr
    intro j hj
    rw [tabL_length]
    change blit B.g (o + 0) ((min k dl) * (s + 1)) (listG (tabL ((min k dl) * (s + 1)) src)) j = blit B.g o ((min k dl) * (s + 1)) src j
    by_cases h1 : o ≤ j ∧ j < o + (min k dl) * (s + 1)
    · rw [blit_in _ _ _ _ _ (by omega) (by omega), blit_in _ _ _ _ _ (by omega) (by omega), listG_tabL _ _ _ (by omega)]
      rfl
    · rw [blit_out _ _ _ _ _ (by omega), blit_out _ _ _ _ _ (by omega)]
/-- .. of nothing into anything, or of anything into nothing. -/
theorem ro_copy0 {x y : Operand} {ats : Array TypeId} {e s dl dc k : Nat} {bs : Option Addr} {src : Nat → Value} (hx : ev f x = .slice bs dl dc) (hT : ats[0]? = some T) (hTe : TyC.tk P T = .sl e) (hs : TyC.sz P e = s + 1)
    (hsrc : Src (m ++ G) (s + 1) (ev f y) k src) (h00 : k = 0 ∨ dl = 0) (hex : h0.ex = false) (hd : dstOk n d = true)
    (h : RO P G qs c n h0 ops Q rest (updo f d (.int .i64 0)) m) :
    RO P G qs c n h0 ops Q (⟨d, .call ⟨.builtin .copy, #[x, y], ats⟩, tt, pos, aft, none⟩ :: rest) f m := by
  refine ro_eff rfl rfl hd fun hp w hw hc a r => ?_
  have hM : ∀ p ∈ m ++ G, w.heap[p.1]? = some p.2.obj := fun p hp' => by rw [hc.1]; exact hw.has p hp'
  obtain ⟨hlen, hcells⟩ := hsrc.run (P := P) hM
  have hnew := hcells 0 (Nat.zero_le _)
  refine upon_val_ok (v := .int .i64 0) (w' := w) ?_ ⟨_, _, hp, r.put hd _, hc, hw, h⟩
  rw [r.eval]
  have hmin : Nat.min k dl = 0 := by show min k dl = 0; omega
  simp only [execOp, resolve, Sem.run_bind, Sem.run_pure, Result.andThen_ok, invoke, builtin, Builtin.copy_]
  rw [show (#[x, y].map (ev f)) = #[ev f x, ev f y] by simp, hx]
  simp only [List.getElem?_toArray, List.getElem?_cons_zero, List.getElem?_cons_succ, hT, Sem.run_bind, run_underlying (u_sl hTe), Result.andThen_ok, hlen, run_sizeOf hs (by omega), hmin, hnew]
  cases bs <;> simp [tabL, storeCells, goInt]

/-- make([]T, len, cap) -/
theorem ro_make {x y : Operand} {e s len cap : Nat} {k k' : IntKind} {zs : List Value} (hx : ev f x = .int k len) (hy : ev f y = .int k' cap) (hT : TyC.tk P T = .sl e) (hs : TyC.sz P e = s + 1) (hz : zeroL P e = some zs) (hby : TyC.by_ P e ≤ 64)
    (hlc : len ≤ cap) (hcap : cap ≤ 2 ^ 40) (hex : h0.ex = false) (hd : dstOk n d = true)
    (h : ∀ b, h0.h.size ≤ b → RO P G qs c n h0 ops Q rest (updo f d (.slice (some ⟨b, 0, none⟩) len cap)) ((b, ⟨cap * (s + 1), zerosG zs, e, (0, 0)⟩) :: m)) :
    RO P G qs c n h0 ops Q (⟨d, .makeSlice T x y, tt, pos, aft, none⟩ :: rest) f m := by
  refine ro_effA rfl rfl hd fun hp w hw hc a r => ?_
  obtain ⟨i, z, hi, his, hib, hiz, hzs⟩ := info_of hs (by omega)
  have hzz : z.cells = zs.toArray := by
    unfold zeroL at hz
    rw [hi] at hz
    simp [hiz] at hz
    rw [← hz]
  have hzl : zs.length = s + 1 := by rw [← hzs, hzz]; simp
  have hsz := hw.size
  let B : Blk := ⟨cap * (s + 1), zerosG zs, e, (0, 0)⟩
  have hB : B.obj = .cells ((Array.range (cap * (s + 1))).map (fun j => z.cells[j % z.cells.size]!)) e := by
    unfold Blk.obj
    congr 1
    apply Array.ext_getElem?
    intro j
    by_cases hj : j < cap * (s + 1)
    · rw [Blk.get B j hj]
      have hm := Nat.mod_lt j (show 0 < zs.length by omega)
      simp [B, zerosG, hj, hzz, List.getD, hm]
    · rw [Array.getElem?_eq_none (by rw [Blk.size]; exact Nat.le_of_not_lt hj)]
      simp [hj]
  have hwr : ∀ j : Nat, j ≤ 2 ^ 40 → IntKind.i64.wrap (j : Int) = j := fun j hj => IntWalk.i64_in _ (by omega)
  have hmulb : i.bytes * cap ≤ 64 * 2 ^ 40 := Nat.mul_le_mul (by rw [hib]; exact hby) hcap
  have hmull : i.bytes * len ≤ 64 * 2 ^ 40 := Nat.mul_le_mul (by rw [hib]; exact hby) (by omega)
  have hask : ∀ w' b', (askRoom b').run P w' = .ok () w' := fun w' b' => by unfold askRoom; split <;> simp
  refine upon_val_ok (v := .slice (some ⟨w.heap.size, 0, none⟩) len cap) (w' := { w with heap := w.heap.push B.obj }) ?_ ⟨_, _, _, r.put hd _, ⟨rfl, hc.2⟩, ?_, by rw [hc.1]; exact Ext.push hex _ _, h w.heap.size (by rw [hc.1]; exact hsz)⟩
  · rw [r.eval, hB]
    have e1 : ((i.bytes : Int) * (cap : Int)) ≤ 64 * 2 ^ 40 := by
      rw [← Int.natCast_mul]; exact Int.ofNat_le.2 hmulb
    have hc1 : (decide ((cap : Int) < 0) || decide ((i.bytes : Int) * (cap : Int) > 2 ^ 48)) = false := by
      rw [Bool.or_eq_false_iff]; exact ⟨decide_eq_false (by omega), decide_eq_false (by omega)⟩
    have hc2 : ¬ ((len : Int) < 0) := by omega
    have hc3 : ¬ ((len : Int) > cap) := by omega
    have hti : ∀ w', (typeInfo e).run P w' = .ok i w' := fun w' => by simp [typeInfo, hi]
    have hzv : ∀ w', (zeroValue e).run P w' = .ok z w' := fun w' => by simp [zeroValue, typeInfo, hi, hiz]
    simp only [execOp, hx, hy, Instr.makeSlice, Sem.run_bind, run_underlying (u_sl hT), Result.andThen_ok, asInt, asIntOf, Sem.run_pure, hti, hwr len (by omega), hwr cap hcap, hc1, hc2, hc3, decide_false, Bool.or_self, Bool.false_eq_true, if_false, hask, run_sizeOf hs (by omega), Int.toNat_natCast]
    by_cases h00 : cap * (s + 1) = 0
    · have hr0 : ∀ g : Nat → Value, Array.map g (Array.range 0) = #[] := fun g => by simp
      simp only [h00, if_true, Sem.run_pure, Result.andThen_ok, newRow, Sem.run_bind, run_newObj, hr0]
    · simp only [if_neg h00, Sem.run_bind, hzv, Sem.run_pure, Result.andThen_ok, newRow, run_newObj]
  · rw [hc.1]; exact hw.push hex _


/-! Values of structs; slices that are written out -/
theorem ro_field {x : Operand} {vs : List Value} {i off : Nat} {T' : TypeId} {v : Value} (hx : ev f x = .agg vs.toArray) (hT : fieldOf (TyC.tk P T) i = some (off, T')) (hT' : oneTk (TyC.tk P T') = true) (hv : vs[off]? = some v) (hd : dstOk n d = true)
    (h : RO P G qs c n h0 ops Q rest (updo f d v) m) : RO P G qs c n h0 ops Q (⟨d, .field T x i, tt, pos, aft, none⟩ :: rest) f m := by
  refine ro_pure rfl rfl hd (fun w => ?_) h
  unfold fieldOf at hT
  split at hT
  · rename_i fs hk
    obtain ⟨fl, hf, hl⟩ := u_st hk
    subst hl
    simp only [List.getElem?_map, Option.map_eq_some_iff, Array.getElem?_toList] at hT
    obtain ⟨fd, hfd, he⟩ := hT
    simp only [Prod.mk.injEq] at he
    obtain ⟨rfl, rfl⟩ := he
    simp [execOp, hx, Instr.field, run_underlying hf, hfd, asAgg, part, run_isAgg_one hT', hv]
  · cases hT
/-- .. a part of several cells. -/
theorem ro_fieldAgg {x : Operand} {vs : List Value} {i off s : Nat} {T' : TypeId} (hx : ev f x = .agg vs.toArray) (hT : fieldOf (TyC.tk P T) i = some (off, T')) (hT' : aggTk (TyC.tk P T') = true) (hs : TyC.sz P T' = s + 1) (hd : dstOk n d = true)
    (h : RO P G qs c n h0 ops Q rest (updo f d (.agg ((vs.drop off).take (s + 1)).toArray)) m) : RO P G qs c n h0 ops Q (⟨d, .field T x i, tt, pos, aft, none⟩ :: rest) f m := by
  refine ro_pure rfl rfl hd (fun w => ?_) h
  unfold fieldOf at hT
  split at hT
  · rename_i fs hk
    obtain ⟨fl, hf, hl⟩ := u_st hk
    subst hl
    simp only [List.getElem?_map, Option.map_eq_some_iff, Array.getElem?_toList] at hT
    obtain ⟨fd, hfd, he⟩ := hT
    simp only [Prod.mk.injEq] at he
    obtain ⟨rfl, rfl⟩ := he
    simp only [execOp, hx, Instr.field, Sem.run_bind, run_underlying hf, Result.andThen_ok, hfd, asAgg, Sem.run_pure, part, run_isAgg_agg hT', if_true, run_sizeOf hs (by omega)]
    congr 3
    apply Array.ext'
    simp [List.drop_take]
  · cases hT

omit ty in
/-- The value of a struct or array literal, by the program's own table. -/
theorem ro_build {ps : Array (Nat × Operand)} {vs : List Value} (hr : ∀ w, (Instr.build T (ps.map fun (i, x) => (i, ev f x))).run P w = .ok (.agg vs.toArray) w) (hd : dstOk n d = true)
    (h : RO P G qs c n h0 ops Q rest (updo f d (.agg vs.toArray)) m) : RO P G qs c n h0 ops Q (⟨d, .build T ps, tt, pos, aft, none⟩ :: rest) f m :=
  ro_pure rfl rfl hd (fun w => by simp only [execOp, Sem.run_bind, hr w, Result.andThen_ok]; rfl) h

/-! Interface values -/
/-- Is an interface value nil? -/
def nilB : Value → Option Bool
  | .nilIface => some true
  | .iface _ _ => some false
  | _ => none
omit ty in
theorem run_equal_of {w : World} {x y : Value} {b : Bool} (h : ∀ k, (Op.equalIn (k + 2) T x y).run P w = .ok b w) : (Op.equal T x y).run P w = .ok b w := h 9998
theorem eqIn_nil {w : World} {v : Value} {b : Bool} (hT : TyC.tk P T = .ifc) (hv : nilB v = some b) (k : Nat) : (Op.equalIn (k + 2) T v .nilIface).run P w = .ok b w := by
  obtain ⟨ms, hm⟩ := u_ifc hT
  cases v <;> first | (cases hv; done) | skip
  all_goals (cases hv; simp [Op.equalIn, run_underlying hm])

theorem ro_eqNil {x : Operand} {v : Value} (hx : ev f x = v) (hT : TyC.tk P T = .ifc) {b : Bool} (hv : nilB v = some b) (hd : dstOk n d = true)
    (h : RO P G qs c n h0 ops Q rest (updo f d (.bool b)) m) : RO P G qs c n h0 ops Q (⟨d, .binOp .eql T x (.const .nilIface) T', tt, pos, aft, none⟩ :: rest) f m := by
  have hr : ∀ w, (execOp (ev f) ⟨d, .binOp .eql T x (.const .nilIface) T', tt, pos, aft, none⟩).run P w = .ok (.value (.bool b)) w := fun w => by
    have he := run_equal_of (P := P) (w := w) (eqIn_nil hT hv)
    cases v <;> first | (cases hv; done) | skip
    all_goals simp [execOp, hx, show ev f (.const .nilIface) = .nilIface from rfl, eqGuard, binOp, he]
  exact ro_read (Nat.le_refl _) rfl hd (fun _ _ w _ hc => ⟨w, hc, .inl (hr w)⟩) (fun _ => hr) h
theorem ro_neNil {x : Operand} {v : Value} (hx : ev f x = v) (hT : TyC.tk P T = .ifc) {b : Bool} (hv : nilB v = some b) (hd : dstOk n d = true)
    (h : RO P G qs c n h0 ops Q rest (updo f d (.bool !b)) m) : RO P G qs c n h0 ops Q (⟨d, .binOp .neq T x (.const .nilIface) T', tt, pos, aft, none⟩ :: rest) f m := by
  have hr : ∀ w, (execOp (ev f) ⟨d, .binOp .neq T x (.const .nilIface) T', tt, pos, aft, none⟩).run P w = .ok (.value (.bool !b)) w := fun w => by
    have he := run_equal_of (P := P) (w := w) (eqIn_nil hT hv)
    cases v <;> first | (cases hv; done) | skip
    all_goals simp [execOp, hx, show ev f (.const .nilIface) = .nilIface from rfl, eqGuard, binOp, he]
  exact ro_read (Nat.le_refl _) rfl hd (fun _ _ w _ hc => ⟨w, hc, .inl (hr w)⟩) (fun _ => hr) h
/-- Two interface values, of unlike types. -/
theorem ro_eqUnlike {x y : Operand} {t t' : TypeId} {u v : Value} (hx : ev f x = .iface t u) (hy : ev f y = .iface t' v) (hT : TyC.tk P T = .ifc) (hne : Nat.beq t t' = false) (hd : dstOk n d = true)
    (h : RO P G qs c n h0 ops Q rest (updo f d (.bool false)) m) : RO P G qs c n h0 ops Q (⟨d, .binOp .eql T x y T', tt, pos, aft, none⟩ :: rest) f m := by
  obtain ⟨ms, hm⟩ := u_ifc hT
  have hne' : t ≠ t' := fun e => by subst e; rw [Nat.beq_refl] at hne; cases hne
  have hr : ∀ w, (execOp (ev f) ⟨d, .binOp .eql T x y T', tt, pos, aft, none⟩).run P w = .ok (.value (.bool false)) w := fun w => by
    have he : (Op.equal T (.iface t u) (.iface t' v)).run P w = .ok false w := run_equal_of fun k => by simp [Op.equalIn, run_underlying hm, hne']
    simp [execOp, hx, hy, eqGuard, binOp, he]
  exact ro_read (Nat.le_refl _) rfl hd (fun _ _ w _ hc => ⟨w, hc, .inl (hr w)⟩) (fun _ => hr) h
/-- nil, no literal, against an interface value. -/
theorem ro_eqNilL {x y : Operand} {t' : TypeId} {v : Value} (hx : ev f x = .nilIface) (hy : ev f y = .iface t' v) (hT : TyC.tk P T = .ifc) (hd : dstOk n d = true)
    (h : RO P G qs c n h0 ops Q rest (updo f d (.bool false)) m) : RO P G qs c n h0 ops Q (⟨d, .binOp .eql T x y T', tt, pos, aft, none⟩ :: rest) f m := by
  obtain ⟨ms, hm⟩ := u_ifc hT
  have hr : ∀ w, (execOp (ev f) ⟨d, .binOp .eql T x y T', tt, pos, aft, none⟩).run P w = .ok (.value (.bool false)) w := fun w => by
    have he : (Op.equal T .nilIface (.iface t' v)).run P w = .ok false w := run_equal_of fun k => by simp [Op.equalIn, run_underlying hm]
    simp [execOp, hx, hy, eqGuard, binOp, he]
  exact ro_read (Nat.le_refl _) rfl hd (fun _ _ w _ hc => ⟨w, hc, .inl (hr w)⟩) (fun _ => hr) h

/-- Pointers in interface values of one type. -/
theorem ro_eqPtr {x y : Operand} {t e : TypeId} {s b b' : Nat} {B B' : Blk} {r : Bool} (hx : ev f x = .iface t (.pointer (some ⟨b, 0, none⟩))) (hy : ev f y = .iface t (.pointer (some ⟨b', 0, none⟩))) (hT : TyC.tk P T = .ifc) (ht : TyC.tk P t = .ptr e) (hcmp : (P.info? t).map (·.comparable) = some true)
    (hs : TyC.sz P e = s + 1) (hb : (b, B) ∈ m ++ G) (hb' : (b', B') ∈ m ++ G) (hf : B.fr = (0, 0)) (hf' : B'.fr = (0, 0)) (hr' : r = decide (b = b')) (hd : dstOk n d = true)
    (h : RO P G qs c n h0 ops Q rest (updo f d (.bool r)) m) : RO P G qs c n h0 ops Q (⟨d, .binOp .eql T x y T', tt, pos, aft, none⟩ :: rest) f m := by
  obtain ⟨ms, hm⟩ := u_ifc hT
  subst hr'
  have hr : ∀ hp w, Own h0 G m hp → At c hp w → (execOp (ev f) ⟨d, .binOp .eql T x y T', tt, pos, aft, none⟩).run P w = .ok (.value (.bool (decide (b = b')))) w := fun hp w hw hc => by
    simp only [Option.map_eq_some_iff] at hcmp
    obtain ⟨i, hi, hcmp⟩ := hcmp
    have g1 : w.heap[b]? = some B.obj := by rw [hc.1]; exact hw.has _ hb
    have g2 : w.heap[b']? = some B'.obj := by rw [hc.1]; exact hw.has _ hb'
    have s1 : w.shape? b = some (B.T, B.n) := by simp [World.shape?, g1, Blk.obj, Blk.size]
    have s2 : w.shape? b' = some (B'.T, B'.n) := by simp [World.shape?, g2, Blk.obj, Blk.size]
    have z1 : ∀ o, w.frozen? ⟨b, o, none⟩ = false := frozen_of g1 hf
    have z2 : ∀ o, w.frozen? ⟨b', o, none⟩ = false := frozen_of g2 hf'
    have he : (Op.equal T (.iface t (.pointer (some ⟨b, 0, none⟩))) (.iface t (.pointer (some ⟨b', 0, none⟩)))).run P w = .ok (decide (b = b')) w := run_equal_of fun k => by
      by_cases hbb : b = b'
      · subst hbb
        simp [Op.equalIn, run_underlying hm, typeInfo, hi, hcmp, run_underlying (u_ptr ht), run_sizeOf hs (by omega), sameAddr]
      · simp [Op.equalIn, run_underlying hm, typeInfo, hi, hcmp, run_underlying (u_ptr ht), run_sizeOf hs (by omega), sameAddr, hbb, z1, z2, noView, viewAt, s1, s2, mayBeOne, stringish]
    simp [execOp, hx, hy, eqGuard, binOp, he]
  exact ro_read (Nat.le_refl _) rfl hd (fun _ hp w hw hc => ⟨w, hc, .inl (hr hp w hw hc)⟩) (fun h => by cases h) h

end
end Go.Eng
