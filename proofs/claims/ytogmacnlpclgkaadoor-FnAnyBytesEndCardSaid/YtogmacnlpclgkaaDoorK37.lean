/-
  TEXTS MERGED: C26, C27, P10.
-/
import Derived.Test.YtogmacnlpclgkaaDoorK36
/-! COMPRESSED BLOCKS 26: tables that are made can be gone through; only the window's own bytes count. -/
namespace Go.Proofs.YtogmacnlpclgkaaDoor
open Go Go.Eng Go.Pz
set_option maxRecDepth 20000
variable {G : Mem} {d : Nat → Nat}

def SymOk (kind b m : Nat) : Prop := m ≤ 31 ∧ b + 2 ^ m ≤ 4294967296 ∧ (kind = 1 → m ≤ 1 → b ≤ 2) ∧ (kind = 2 → b + 2 ^ m ≤ 262144)
instance (kind b m : Nat) : Decidable (SymOk kind b m) := by unfold SymOk; infer_instance
theorem SOk.of {kind : Nat} {T : STab} (h1 : T.log ≤ 9) (h2 : ∀ p, p < 2 ^ T.log → SymOk kind (T.cell p).base (T.cell p).more ∧ (T.cell p).bits ≤ 9 ∧ (T.cell p).next + 2 ^ (T.cell p).bits ≤ 2 ^ T.log) : SOk kind T where
  log := h1
  more := fun p hp => ⟨(h2 p hp).1.1, (h2 p hp).1.2.1⟩
  next := fun p hp => (h2 p hp).2
  off := fun p hp => (h2 p hp).1.2.2.1
  mat := fun p hp => (h2 p hp).1.2.2.2
theorem sym0_ok : ∀ s, s < 36 → SymOk 0 (sqBase 0 s).1 (sqBase 0 s).2 := by decide
theorem sym1_ok : ∀ s, s < 32 → SymOk 1 (sqBase 1 s).1 (sqBase 1 s).2 := by decide
theorem sym2_ok : ∀ s, s < 53 → SymOk 2 (sqBase 2 s).1 (sqBase 2 s).2 := by decide
theorem sym_ok {kind s : Nat} (hk : kind < 3) (hs : s ≤ sqTop kind) : SymOk kind (sqBase kind s).1 (sqBase kind s).2 := by
  match kind, hk with
  | 0, _ => exact sym0_ok s (Nat.lt_succ_of_le hs)
  | 1, _ => exact sym1_ok s (Nat.lt_succ_of_le hs)
  | 2, _ => exact sym2_ok s (Nat.lt_succ_of_le hs)
def preOk (kind : Nat) (t : Nat × Nat × Nat × Nat) (n : Nat) : Prop := SymOk kind t.1 t.2.1 ∧ t.2.2.1 ≤ 9 ∧ t.2.2.2 + 2 ^ t.2.2.1 ≤ n
instance (kind : Nat) (t : Nat × Nat × Nat × Nat) (n : Nat) : Decidable (preOk kind t n) := by unfold preOk; infer_instance
theorem pre0_ok : ∀ p, p < 64 → preOk 0 (preL0.getD p (0, 0, 0, 0)) 64 := by decide
theorem pre1_ok : ∀ p, p < 32 → preOk 1 (preL1.getD p (0, 0, 0, 0)) 32 := by decide
theorem pre2_ok : ∀ p, p < 64 → preOk 2 (preL2.getD p (0, 0, 0, 0)) 64 := by decide
theorem preTab_ok {kind : Nat} (hk : kind < 3) : SOk kind (preTab kind) := by
  match kind, hk with
  | 0, _ => exact SOk.of (by decide) fun p hp => pre0_ok p hp
  | 1, _ => exact SOk.of (by decide) fun p hp => pre1_ok p hp
  | 2, _ => exact SOk.of (by decide) fun p hp => pre2_ok p hp
theorem rleTab_ok {kind s : Nat} (hk : kind < 3) (hs : s ≤ sqTop kind) : SOk kind (rleTab kind s) :=
  SOk.of (Nat.zero_le _) fun _ _ => ⟨sym_ok hk hs, Nat.zero_le _, Nat.le_refl _⟩
theorem fseTab_ok {kind log : Nat} {sh : Nat → Int} (hk : kind < 3) (hl : log ≤ 9) (f : Fills sh (sqTop kind + 1) (2 ^ log)) : SOk kind (fseTab kind log sh) :=
  SOk.of hl fun p hp => ⟨sym_ok hk (Nat.le_of_lt_succ (symTab_lt f hp)), Nat.le_trans (cell_ok f hp).2.1 hl, (cell_ok f hp).2.2⟩
theorem sqLog_le (kind : Nat) : sqLog kind ≤ 9 := by unfold sqLog; split <;> omega
theorem setTab_ok {t : Option STab} {kind mode n off o : Nat} {T : STab} (ht : ∀ T, t = some T → SOk kind T) (h : setTab t kind mode d n off = some (T, o)) (hk : kind < 3) : SOk kind T := by
  unfold setTab at h
  split at h
  · cases h; exact preTab_ok hk
  split at h
  · split at h
    · cases h
    split at h
    · cases h
    · cases h; exact rleTab_ok hk (by omega)
  split at h
  · obtain ⟨⟨log, sh, c, q⟩, hP, e⟩ := Option.map_eq_some_iff.1 h
    cases e
    obtain ⟨p1, p2, p3, p4⟩ := probs_ok hP (sqLog_le kind)
    exact fseTab_ok hk (Nat.le_trans p2 (sqLog_le kind)) p3
  · obtain ⟨T', hT, e⟩ := Option.map_eq_some_iff.1 h
    cases e; exact ht T hT

/-- Tables at hand can be gone through. -/
structure CEOk (e : CE) : Prop where
  t0 : ∀ T, e.t0 = some T → SOk 0 T
  t1 : ∀ T, e.t1 = some T → SOk 1 T
  t2 : ∀ T, e.t2 = some T → SOk 2 T
  r : e.r1 < 4294967296 ∧ e.r2 < 4294967296 ∧ e.r3 < 4294967296
theorem CEOk.ini (e : CE) : CEOk e.ini := ⟨fun _ h => (by cases h), fun _ h => (by cases h), fun _ h => (by cases h), (by show 1 < _; decide), (by show 4 < _; decide), (by show 8 < _; decide)⟩
theorem sqTabs_ok {e : CE} {n off md : Nat} (h : CEOk e) (hoff : off ≤ n) : CEOk (sqTabs e d n off md).1 ∧ ∀ o, (sqTabs e d n off md).2 = some o → o ≤ n ∧ ∃ T0 T1 T2, (sqTabs e d n off md).1.t0 = some T0 ∧ (sqTabs e d n off md).1.t1 = some T1 ∧ (sqTabs e d n off md).1.t2 = some T2 := by
  unfold sqTabs
  cases h0 : setTab e.t0 0 (md / 64 % 4) d n off with
  | none => exact ⟨h, fun o ho => by cases ho⟩
  | some r0 =>
    obtain ⟨T0, o1⟩ := r0
    have k0 := setTab_ok h.t0 h0 (by decide)
    have l0 := setTab_le h0 hoff (by decide)
    have s0 : ∀ T, some T0 = some T → SOk 0 T := fun T hT => by cases hT; exact k0
    dsimp only
    cases h1 : setTab e.t1 1 (md / 16 % 4) d n o1 with
    | none => exact ⟨⟨s0, h.t1, h.t2, h.r⟩, fun o ho => by cases ho⟩
    | some r1 =>
      obtain ⟨T1, o2⟩ := r1
      have k1 := setTab_ok h.t1 h1 (by decide)
      have l1 := setTab_le h1 l0 (by decide)
      have s1 : ∀ T, some T1 = some T → SOk 1 T := fun T hT => by cases hT; exact k1
      dsimp only
      cases h2 : setTab e.t2 2 (md / 4 % 4) d n o2 with
      | none => exact ⟨⟨s0, s1, h.t2, h.r⟩, fun o ho => by cases ho⟩
      | some r2 =>
        obtain ⟨T2, o3⟩ := r2
        have k2 := setTab_ok h.t2 h2 (by decide)
        have l2 := setTab_le h2 l1 (by decide)
        exact ⟨⟨s0, s1, fun T hT => by cases hT; exact k2, h.r⟩, fun o ho => by cases ho; exact ⟨l2, T0, T1, T2, rfl, rfl, rfl⟩⟩
theorem sqHd_le {n off c o : Nat} (hd : ∀ i, d i < 256) (h : sqHd d n off = some (c, o)) : o ≤ n ∧ c ≤ 2 ^ 20 := by
  have h1 := hd off
  have h2 := hd (off + 1)
  have h3 := hd (off + 2)
  unfold sqHd at h
  split at h
  · cases h
  split at h
  · cases h; omega
  split at h
  · split at h
    · cases h
    · cases h; omega
  split at h
  · cases h
  · cases h; omega
theorem sqInit_ok {e : CE} {n off : Nat} (hd : ∀ i, d i < 256) (h : CEOk e) : CEOk (sqInit e d n off).1 ∧ ∀ c o, (sqInit e d n off).2 = some (c, o) → o ≤ n ∧ c ≤ 2 ^ 20 ∧ (c ≠ 0 → ∃ T0 T1 T2, (sqInit e d n off).1.t0 = some T0 ∧ (sqInit e d n off).1.t1 = some T1 ∧ (sqInit e d n off).1.t2 = some T2) := by
  unfold sqInit
  cases hh : sqHd d n off with
  | none => exact ⟨h, fun c o ho => by cases ho⟩
  | some r =>
    obtain ⟨c, o⟩ := r
    have hl := sqHd_le hd hh
    dsimp only
    split
    · exact ⟨h, fun c o ho => by cases ho; exact ⟨hl.1, by decide, fun hc => absurd rfl hc⟩⟩
    split
    · exact ⟨h, fun c o ho => by cases ho⟩
    split
    · exact ⟨h, fun c o ho => by cases ho⟩
    · have hk := sqTabs_ok (d := d) (n := n) (off := o + 1) (md := d o) h (by omega)
      refine ⟨hk.1, fun c' o' ho => ?_⟩
      obtain ⟨q, hq, e⟩ := Option.map_eq_some_iff.1 ho
      cases e
      exact ⟨(hk.2 _ hq).1, hl.2, fun _ => (hk.2 _ hq).2⟩

/-! Only the window's own bytes count -/
theorem mcp_win_congr {S : Nat → Nat} {bl wl o : Nat} {L L' : Nat → Nat} (h : ∀ i, i < wl → L i = L' i) (hw : ¬ (bl < o ∧ wl < o - bl)) : ∀ k, mcp S bl L wl o k = mcp S bl L' wl o k
  | 0 => rfl
  | k + 1 => by
    rw [mcp, mcp, mcp_win_congr h hw k]
    split
    · rw [h _ (by omega)]
    · rfl
section
variable {T0 T1 T2 : STab} {st wl : Nat} {L L' LT : Nat → Nat} {ll : Nat}
theorem sqDo_congr (h : ∀ i, i < wl → L i = L' i) (x : XS) (li o ml : Nat) : sqDo L wl LT ll x li o ml = sqDo L' wl LT ll x li o ml := by
  unfold sqDo
  by_cases h1 : ll - x.lo < li
  · rw [if_pos h1, if_pos h1]
  rw [if_neg h1, if_neg h1]
  dsimp only
  by_cases h2 : ml = 0
  · rw [if_pos h2, if_pos h2]
  rw [if_neg h2, if_neg h2]
  by_cases h3 : o = 0
  · rw [if_pos h3, if_pos h3]
  rw [if_neg h3, if_neg h3]
  by_cases h4 : x.bl + li < o ∧ wl < o - (x.bl + li)
  · rw [if_pos h4, if_pos h4]
  rw [if_neg h4, if_neg h4, mcp_win_congr h h4]
theorem sqStep_congr (h : ∀ i, i < wl → L i = L' i) (last : Bool) (x : XS) : sqStep T0 T1 T2 d st L wl LT ll last x = sqStep T0 T1 T2 d st L' wl LT ll last x := by
  unfold sqStep
  simp only [sqDo_congr h]
theorem sqLoop_congr (h : ∀ i, i < wl → L i = L' i) : ∀ (k : Nat) (x : XS), sqLoop T0 T1 T2 d st L wl LT ll k x = sqLoop T0 T1 T2 d st L' wl LT ll k x
  | 0, _ => rfl
  | k + 1, x => by rw [sqLoop, sqLoop, sqStep_congr h, sqLoop_congr h k]
theorem sqExec_congr (h : ∀ i, i < wl → L i = L' i) (e : CE) (n off cnt : Nat) (S : Nat → Nat) : sqExec e d n off cnt L wl LT ll S = sqExec e d n off cnt L' wl LT ll S := by
  unfold sqExec
  simp only [sqLoop_congr h]
end
end Go.Proofs.YtogmacnlpclgkaaDoor

/-! COMPRESSED BLOCKS 27: what a compressed block does to a Reader; the memory of such Readers. -/
namespace Go.Proofs.YtogmacnlpclgkaaDoor
open Go Go.Eng Go.Pz
attribute [local irreducible] RO J Trip Quiet
set_option maxRecDepth 20000
variable {G : Mem}

/-- A compressed block of so many bytes. -/
def cmpBlk (dat : Nat → Nat) (N : Nat) (p : PS CE) (size : Nat) : PS CE × Bool :=
  let k := min size (N - p.pos)
  let p1 : PS CE := { p with pos := p.pos + k }
  if k < size then (p1, false)
  else
    let d := fun i => dat (p.pos + i)
    let p2 : PS CE := { p1 with bl := 0 }
    let a := lits p.e d size
    match a.2 with
    | none => ({ p2 with e := a.1 }, false)
    | some (o, K, LT) =>
      let b := sqInit a.1 d size o
      match b.2 with
      | none => ({ p2 with e := b.1 }, false)
      | some (c, o2) =>
        if c = 0 then
          if o2 < size then ({ p2 with e := b.1 }, false)
          else ({ p2 with e := b.1, S := apD p.S 0 K LT, bl := K }, true)
        else
          let r := sqExec b.1 d size o2 c p.L p.wl LT K p.S
          ({ p2 with e := { b.1 with r1 := r.1.r1, r2 := r.1.r2, r3 := r.1.r3 }, S := r.1.S, bl := r.1.bl }, r.2)
theorem cmpBlk_pos (dat : Nat → Nat) (N : Nat) (p : PS CE) (size : Nat) : (cmpBlk dat N p size).1.pos = p.pos + min size (N - p.pos) := by
  unfold cmpBlk
  dsimp only
  split
  · rfl
  split
  · rfl
  · split
    · rfl
    · split
      · split <;> rfl
      · rfl
theorem cmpBlk_go (dat : Nat → Nat) (N : Nat) : CmpGo N (cmpBlk dat N) := fun p size _ => by rw [cmpBlk_pos]; omega

theorem lits_same (e : CE) (d : Nat → Nat) (n : Nat) : (lits e d n).1.t0 = e.t0 ∧ (lits e d n).1.t1 = e.t1 ∧ (lits e d n).1.t2 = e.t2 ∧ (lits e d n).1.r1 = e.r1 ∧ (lits e d n).1.r2 = e.r2 ∧ (lits e d n).1.r3 = e.r3 := by
  unfold lits
  split
  · exact ⟨rfl, rfl, rfl, rfl, rfl, rfl⟩
  split
  · exact ⟨rfl, rfl, rfl, rfl, rfl, rfl⟩
  unfold litHuf
  dsimp only
  split
  · exact ⟨rfl, rfl, rfl, rfl, rfl, rfl⟩
  split
  · exact ⟨rfl, rfl, rfl, rfl, rfl, rfl⟩
  split
  · exact ⟨rfl, rfl, rfl, rfl, rfl, rfl⟩
  split
  · split
    · exact ⟨rfl, rfl, rfl, rfl, rfl, rfl⟩
    · split <;> exact ⟨rfl, rfl, rfl, rfl, rfl, rfl⟩
  · split <;> exact ⟨rfl, rfl, rfl, rfl, rfl, rfl⟩
theorem lits_le {e : CE} {d : Nat → Nat} {n o K : Nat} {LT : Nat → Nat} (h : (lits e d n).2 = some (o, K, LT)) : o ≤ n ∧ K ≤ 131072 := by
  unfold lits at h
  split at h
  · cases h
  split at h
  · have h : litRaw d n = some (o, K, LT) := h
    unfold litRaw at h
    dsimp only at h
    generalize (if d 0 / 4 % 4 = 1 then 2 else if d 0 / 4 % 4 = 3 then 3 else 1) = w at h
    generalize (if d 0 / 4 % 4 = 1 then d 0 / 16 + d 1 * 16 else if d 0 / 4 % 4 = 3 then d 0 / 16 + d 1 * 16 + d 2 * 4096 else d 0 / 8) = z at h
    split at h
    · cases h
    split at h
    · cases h
    split at h
    · split at h
      · cases h
      · cases h; omega
    · split at h
      · cases h
      · cases h; omega
  · unfold litHuf at h
    dsimp only at h
    split at h
    · cases h
    split at h
    · cases h
    split at h
    · cases h
    split at h
    · split at h
      · cases h
      · split at h
        · cases h
        · obtain ⟨L, _, e⟩ := Option.map_eq_some_iff.1 h
          cases e; omega
    · split at h
      · cases h
      · obtain ⟨L, _, e⟩ := Option.map_eq_some_iff.1 h
        cases e; omega

theorem sqInit_same (e : CE) (d : Nat → Nat) (n off : Nat) : (sqInit e d n off).1.hb = e.hb ∧ (sqInit e d n off).1.ht = e.ht ∧ (sqInit e d n off).1.r1 = e.r1 ∧ (sqInit e d n off).1.r2 = e.r2 ∧ (sqInit e d n off).1.r3 = e.r3 := by
  unfold sqInit
  split
  · exact ⟨rfl, rfl, rfl, rfl, rfl⟩
  split
  · exact ⟨rfl, rfl, rfl, rfl, rfl⟩
  split
  · exact ⟨rfl, rfl, rfl, rfl, rfl⟩
  split
  · exact ⟨rfl, rfl, rfl, rfl, rfl⟩
  unfold sqTabs
  dsimp only
  split
  · exact ⟨rfl, rfl, rfl, rfl, rfl⟩
  split
  · exact ⟨rfl, rfl, rfl, rfl, rfl⟩
  split <;> exact ⟨rfl, rfl, rfl, rfl, rfl⟩
theorem LtM.view {oa : Option Addr} {n cp : Nat} {D : Nat → Nat} {sm M : Mem} (h : LtM (.slice oa n cp) n D sm) (hs : ∀ p ∈ sm, p ∈ M) : View M oa n cp D := by
  rcases h with ⟨h1, _, _⟩ | ⟨b, cap, B, h1, h2, h3, h4, h5, h6⟩
  · cases h1
    exact ⟨Nat.le_refl _, .inl ⟨rfl, rfl, rfl⟩⟩
  · cases h1
    exact ⟨h5, .inr ⟨b, 0, B, rfl, hs _ (by rw [h2]; exact List.mem_cons_self), fun _ => by omega, fun i hi => by rw [Nat.zero_add, h6 i hi]⟩⟩

/-- The last literals' buffer. -/
def LitM (v : Value) (m : Mem) : Prop := (v = .slice none 0 0 ∧ m = []) ∨ ∃ b l c B, v = .slice (some ⟨b, 0, none⟩) l c ∧ m = [(b, B)] ∧ l ≤ c ∧ c ≤ B.n ∧ B.fr = (0, 0)
theorem LitM.cut {v : Value} {m : Mem} (h : LitM v m) (D : Nat → Nat) : ∃ va vl vc, v = .slice va vl vc ∧ LtM (.slice va 0 vc) 0 D m ∧ 0 ≤ vl ∧ vl ≤ vc := by
  rcases h with ⟨rfl, rfl⟩ | ⟨b, l, c, B, rfl, rfl, h1, h2, h3⟩
  · exact ⟨none, 0, 0, rfl, .inl ⟨rfl, rfl, rfl⟩, Nat.le_refl _, Nat.le_refl _⟩
  · exact ⟨some ⟨b, 0, none⟩, l, c, rfl, .inr ⟨b, c, B, rfl, rfl, h3, h2, Nat.zero_le _, fun i hi => absurd hi (Nat.not_lt_zero _)⟩, Nat.zero_le _, h1⟩
theorem LitM.of_lt {v : Value} {n : Nat} {D : Nat → Nat} {m : Mem} (h : LtM v n D m) : LitM v m := by
  rcases h with ⟨h1, _, h2⟩ | ⟨b, c, B, h1, h2, h3, h4, h5, h6⟩
  · exact .inl ⟨h1, h2⟩
  · exact .inr ⟨b, n, c, B, h1, h2, h5, h4, h3⟩
theorem LitM.slIn {v : Value} {m : Mem} (h : LitM v m) : SlIn v m := by
  rcases h with ⟨h, _⟩ | ⟨b, l, c, B, h1, h2, h3, h4, h5⟩
  · exact .inl h
  · exact .inr ⟨b, l, c, B, h1, by rw [h2]; exact List.mem_cons_self, h3, h4, h5⟩
/-- What is left when a call fails. -/
theorem LitM.of_in {v : Value} {m : Mem} (h : SlIn v m) : ∃ lm jk, LitM v lm ∧ m.Perm (lm ++ jk) := by
  rcases h with h | ⟨b, l, c, B, h1, h2, h3, h4, h5⟩
  · exact ⟨[], m, .inl ⟨h, rfl⟩, .refl _⟩
  · obtain ⟨s, t, rfl⟩ := List.append_of_mem h2
    exact ⟨[(b, B)], s ++ t, .inr ⟨b, l, c, B, h1, rfl, h3, h4, h5⟩, List.perm_middle⟩

/-- The memory that only compressed blocks touch. -/
def ExtC (e : CE) (x : RX) (em : Mem) : Prop :=
  ∃ cl cS cm lm hm m0 m1 m2 fm jk, em.Perm (cm ++ (lm ++ (hm ++ (m0 ++ (m1 ++ (m2 ++ (fm ++ jk))))))) ∧ BufN x.cb cl cS cm ∧ cl ≤ 2 ^ 17 ∧ (∀ i, cS i < 256) ∧ LitM x.lit lm ∧ HtM x.ht e.hb e.ht hm ∧ x.hb = e.hb ∧
    SqM 0 x.st0 x.tb0 x.sb0 e.t0 m0 ∧ SqM 1 x.st1 x.tb1 x.sb1 e.t1 m1 ∧ SqM 2 x.st2 x.tb2 x.sb2 e.t2 m2 ∧ FsM x.fs fm ∧ (x.r1 = e.r1 ∧ x.r2 = e.r2 ∧ x.r3 = e.r3) ∧ CEOk e
theorem SqM.clear {kind : Nat} {st tb : Value} {sb : Nat} {t : Option STab} {m : Mem} (h : SqM kind st tb sb t m) : ∃ bm tm, m = bm ++ tm ∧ SqM kind (.slice none 0 0) tb sb none bm := by
  obtain ⟨bm, tm, rfl, h1, _⟩ := h
  exact ⟨bm, tm, rfl, bm, [], by rw [List.append_nil], h1, rfl, rfl⟩
theorem extC_ini (e : CE) (x : RX) (em : Mem) (h : ExtC e x em) : ExtC e.ini x.ini em := by
  obtain ⟨cl, cS, cm, lm, hm, m0, m1, m2, fm, jk, h1, h2, h3, h4, h5, h6, h7, h8, h9, h10, h11, h12, h13⟩ := h
  obtain ⟨a0, b0, rfl, k0⟩ := h8.clear
  obtain ⟨a1, b1, rfl, k1⟩ := h9.clear
  obtain ⟨a2, b2, rfl, k2⟩ := h10.clear
  refine ⟨cl, cS, cm, lm, hm, a0, a1, a2, fm, b0 ++ (b1 ++ (b2 ++ jk)), h1.trans (by classical exact List.perm_iff_count.2 fun a => by first | (simp only [List.count_append, List.count_cons, List.count_nil]; omega) | (simp only [List.append_eq, List.count_append, List.count_cons, List.count_nil]; omega)), h2, h3, h4, h5, ?_, rfl, k0, k1, k2, h11, ⟨rfl, rfl, rfl⟩, CEOk.ini e⟩
  rcases h6 with ⟨g1, g2, g3, g4⟩ | ⟨tb, g1, g2, g3⟩
  · exact .inl ⟨g1, rfl, g3, g4⟩
  · exact .inr ⟨tb, g1, fun h => absurd rfl h, g3⟩
theorem extC_zero : ExtC CE.zero RS.zero.ext [] :=
  ⟨0, fun _ => 0, [], [], [], [], [], [], [], [], .refl _, .inl ⟨rfl, rfl, rfl, fun _ => rfl⟩, Nat.zero_le _, fun _ => by show 0 < 256; omega, .inl ⟨rfl, rfl⟩, .inl ⟨rfl, rfl, rfl, rfl⟩, rfl,
    ⟨[], [], rfl, .inl ⟨rfl, rfl⟩, rfl, rfl⟩, ⟨[], [], rfl, .inl ⟨rfl, rfl⟩, rfl, rfl⟩, ⟨[], [], rfl, .inl ⟨rfl, rfl⟩, rfl, rfl⟩, .inl ⟨rfl, rfl⟩, ⟨rfl, rfl, rfl⟩,
    ⟨fun _ h => (by cases h), fun _ h => (by cases h), fun _ h => (by cases h), (by show 0 < _; decide), (by show 0 < _; decide), (by show 0 < _; decide)⟩⟩

/-- .. with more blocks. -/
def Sent.addC (fm : Mem) (S : Sent G) : Sent (fm ++ G) where
  eb := S.eb
  eo := S.eo
  ub := S.ub
  uo := S.uo
  E0 := S.E0
  E1 := S.E1
  U0 := S.U0
  U1 := S.U1
  e0 := List.mem_append.2 (.inr S.e0)
  e0n := S.e0n
  e0g := S.e0g
  e1 := List.mem_append.2 (.inr S.e1)
  e1f := S.e1f
  u0 := List.mem_append.2 (.inr S.u0)
  u0n := S.u0n
  u0g := S.u0g
  u1 := List.mem_append.2 (.inr S.u1)
  u1f := S.u1f
  ne := S.ne
theorem TabV.of {kind : Nat} {st tb : Value} {sb : Nat} {T : STab} {m M : Mem} (h : SqM kind st tb sb (some T) m) (hm : ∀ p ∈ m, p ∈ M) : TabV M st sb T := by
  obtain ⟨bm, tm, rfl, h1, h2, b, c, B, h3, h4, h5, h6, _⟩ := h
  exact ⟨h2, b, c, B, h3, hm _ h4, h5, h6⟩
theorem BaseG.mono {M : Mem} {gid : Nat} {l : List (Nat × Nat)} (h : BaseG G gid l) (hm : ∀ p ∈ G, p ∈ M) : BaseG M gid l := by
  obtain ⟨B1, lb, lo, cp, B2, h1, h2, h3, h4, h5, h6⟩ := h
  exact ⟨B1, lb, lo, cp, B2, hm _ h1, h2, h3, hm _ h4, h5, h6⟩
theorem WinM.view {v : Value} {z wo wl : Nat} {L : Nat → Nat} {wm M : Mem} (h : WinM v z wo L wl wm) (hm : ∀ p ∈ wm, p ∈ M) : ∃ wa wcp ph, v = .slice wa wl wcp ∧ View M wa wl wcp ph ∧ wo ≤ wl ∧ wl ≤ z ∧ ∀ i, i < wl → L i = winF ph wo wl i := by
  obtain ⟨ph, h1, h2, h3, h4, h5⟩ := h
  rcases h1 with ⟨rfl, g1, rfl⟩ | ⟨b, o, cap, B, rfl, rfl, g2, g3, g4, g5⟩
  · have : wl = 0 := by omega
    subst this
    exact ⟨none, 0, ph, rfl, ⟨Nat.le_refl _, .inl ⟨rfl, rfl, rfl⟩⟩, h3, h2, h5⟩
  · exact ⟨some ⟨b, o, none⟩, cap, ph, rfl, ⟨g4, .inr ⟨b, o, B, rfl, hm _ (by simp), fun _ => by omega, fun i hi => g5 i (by omega)⟩⟩, h3, h2, h5⟩
end Go.Proofs.YtogmacnlpclgkaaDoor

/-! PLAIN LAWS 10: bounds of what the sequences make. -/
namespace Go.Proofs.YtogmacnlpclgkaaDoor
open Go Go.Eng Go.Pz
set_option maxRecDepth 20000
variable {d : Nat → Nat}

theorem hsy_lt {hb : Nat} {ht : Nat → Nat} (h : HtB hb ht) (a i : Nat) : hsy ht hb d a i < 256 := h.sym _ (bitsAt_lt _ _ _)
theorem litS_lt {e : CE} {n off tss K : Nat} {LT : Nat → Nat} (he : HtB e.hb e.ht) (h : litS e d n off tss K = some LT) : ∀ i, LT i < 256 := by
  intro i
  unfold litS at h
  split at h
  · unfold lit1 at h
    split at h
    · cases h
    split at h
    · cases h; exact hsy_lt he _ _
    · cases h
  · unfold lit4 lit4o at h
    split at h
    · cases h
    split at h
    · cases h
    split at h
    · cases h
    dsimp only at h
    repeat' split at h
    all_goals first | (cases h; done) | skip
    all_goals
      cases h
      dsimp only
      repeat' split
      all_goals exact hsy_lt he _ _
theorem lits_lt {e : CE} {n o K : Nat} {LT : Nat → Nat} (hd : ∀ i, d i < 256) (he : e.hb ≠ 0 → HtB e.hb e.ht) (h : (lits e d n).2 = some (o, K, LT)) : ∀ i, LT i < 256 := by
  intro i
  unfold lits at h
  split at h
  · cases h
  split at h
  · have h : litRaw d n = some (o, K, LT) := h
    unfold litRaw at h
    dsimp only at h
    generalize (if d 0 / 4 % 4 = 1 then 2 else if d 0 / 4 % 4 = 3 then 3 else 1) = w at h
    generalize (if d 0 / 4 % 4 = 1 then d 0 / 16 + d 1 * 16 else if d 0 / 4 % 4 = 3 then d 0 / 16 + d 1 * 16 + d 2 * 4096 else d 0 / 8) = z at h
    split at h
    · cases h
    split at h
    · cases h
    split at h
    · split at h
      · cases h
      · cases h; exact hd _
    · split at h
      · cases h
      · cases h; exact hd _
  · unfold litHuf at h
    dsimp only at h
    split at h
    · cases h
    split at h
    · cases h
    split at h
    · cases h
    split at h
    · split at h
      · cases h
      · rename_i g b q hq
        split at h
        · cases h
        · obtain ⟨L, hL, ee⟩ := Option.map_eq_some_iff.1 h
          cases ee
          exact litS_lt (e := { e with ht := g, hb := b }) (hufRead_ok hd hq).1 hL i
    · split at h
      · cases h
      · rename_i hz
        obtain ⟨L, hL, ee⟩ := Option.map_eq_some_iff.1 h
        cases ee
        exact litS_lt (he hz) hL i

theorem apD_b {T T' : Nat → Nat} {n k : Nat} (h : ∀ i, T i < 256) (h' : ∀ i, T' i < 256) : ∀ i, apD T n k T' i < 256 := fun i => by unfold apD; split; exact h' _; exact h _
theorem mcp_lt {T L : Nat → Nat} {bl wl o : Nat} (h : ∀ i, T i < 256) (hL : ∀ i, L i < 256) : ∀ k i, mcp T bl L wl o k i < 256
  | 0, i => h i
  | k + 1, i => by
    rw [mcp]
    unfold updN
    split
    · split
      · exact hL _
      · exact mcp_lt h hL k _
    · exact mcp_lt h hL k i
/-- What holds of the state between sequences. -/
structure XI (T0 T1 T2 : STab) (x : XS) : Prop where
  s : ∀ i, x.S i < 256
  bl : x.bl ≤ 2 ^ 20
  r : x.r1 < 4294967296 ∧ x.r2 < 4294967296 ∧ x.r3 < 4294967296
  t0 : x.s0 < 2 ^ T0.log
  t1 : x.s1 < 2 ^ T1.log
  t2 : x.s2 < 2 ^ T2.log
theorem repO_lt {more v li r1 r2 r3 : Nat} (h : v < 4294967296) (hm : more ≤ 1 → v ≤ 3) (h1 : r1 < 4294967296) (h2 : r2 < 4294967296) (h3 : r3 < 4294967296) :
    (repO more v li r1 r2 r3).2.1 < 4294967296 ∧ (repO more v li r1 r2 r3).2.2.1 < 4294967296 ∧ (repO more v li r1 r2 r3).2.2.2 < 4294967296 := by
  have hmod : (r1 + 4294967295) % 4294967296 < 4294967296 := Nat.mod_lt _ (by omega)
  unfold repO
  generalize (r1 + 4294967295) % 4294967296 = w at hmod ⊢
  by_cases hm1 : 1 < more
  · rw [if_pos hm1]; exact ⟨h, h1, h2⟩
  · have hv := hm (by omega)
    rw [if_neg hm1]
    dsimp only
    generalize (v + if li = 0 then 1 else 0) = t
    split
    · exact ⟨h1, h2, h3⟩
    split
    · exact ⟨h2, h1, h3⟩
    split
    · exact ⟨h3, h1, h2⟩
    split
    · exact ⟨hmod, h1, h2⟩
    · exact ⟨h1, h2, h3⟩
section
variable {T0 T1 T2 : STab} {st wl ll : Nat} {L LT : Nat → Nat}
theorem sqDo_inv (hL : ∀ i, L i < 256) (hLT : ∀ i, LT i < 256) {x : XS} (hx : XI T0 T1 T2 x) {li o ml : Nat} (hml : ml ≤ 262144) (hb : x.bl + (ll - x.lo) ≤ 131072) : XI T0 T1 T2 (sqDo L wl LT ll x li o ml).1 := by
  have ha := apD_b (n := x.bl) (k := li) hx.s (T' := fun i => LT (x.lo + i)) (fun i => hLT _)
  unfold sqDo
  split
  · exact hx
  have hli : x.bl + li ≤ 2 ^ 20 := by omega
  have h1 : XI T0 T1 T2 { x with S := apD x.S x.bl li fun i => LT (x.lo + i), bl := x.bl + li, lo := x.lo + li } := ⟨ha, hli, hx.r, hx.t0, hx.t1, hx.t2⟩
  dsimp only
  split
  · exact h1
  split
  · exact h1
  split
  · exact h1
  · exact ⟨mcp_lt ha hL _, by dsimp only; omega, hx.r, hx.t0, hx.t1, hx.t2⟩
theorem sqStep_inv (o0 : SOk 0 T0) (o1 : SOk 1 T1) (o2 : SOk 2 T2) (hL : ∀ i, L i < 256) (hLT : ∀ i, LT i < 256) (last : Bool) {x : XS} (hx : XI T0 T1 T2 x) : XI T0 T1 T2 (sqStep T0 T1 T2 d st L wl LT ll last x).1 := by
  unfold sqStep
  split
  · exact hx
  rename_i hfit
  dsimp only
  split
  · exact hx
  split
  · exact hx
  split
  · exact hx
  have m1 := o1.more _ hx.t1
  have m2 := o2.mat _ hx.t2 rfl
  have f1 := o1.off _ hx.t1 rfl
  have w1 := rvV_lt d x.a (T1.cell x.s1).more
  have w2 := rvV_lt d (x.a - (T1.cell x.s1).more) (T2.cell x.s2).more
  have n0 := (o0.next _ hx.t0).2
  have n1 := (o1.next _ hx.t1).2
  have n2 := (o2.next _ hx.t2).2
  generalize T0.cell x.s0 = z0 at *
  generalize T1.cell x.s1 = z1 at *
  generalize T2.cell x.s2 = z2 at *
  have hs1 : z1.more ≤ 1 → z1.base + rvV d x.a z1.more ≤ 3 := fun h => by
    have := f1 h
    have h2 : 2 ^ z1.more ≤ 2 ^ 1 := Nat.pow_le_pow_right (by omega) h
    omega
  have hr := repO_lt (more := z1.more) (v := z1.base + rvV d x.a z1.more) (li := z0.base + rvV d (x.a - z1.more - z2.more) z0.more) (by omega) hs1 hx.r.1 hx.r.2.1 hx.r.2.2
  generalize repO z1.more (z1.base + rvV d x.a z1.more) (z0.base + rvV d (x.a - z1.more - z2.more) z0.more) x.r1 x.r2 x.r3 = q at *
  generalize x.a - z1.more - z2.more - z0.more = a at *
  have hml : z2.base + rvV d (x.a - z1.more) z2.more ≤ 262144 := by omega
  have h1 : XI T0 T1 T2 { x with r1 := q.2.1, r2 := q.2.2.1, r3 := q.2.2.2, a := a } := ⟨hx.s, hx.bl, hr, hx.t0, hx.t1, hx.t2⟩
  split
  · exact sqDo_inv hL hLT h1 hml (by dsimp only; omega)
  split
  · exact h1
  split
  · exact h1
  split
  · exact h1
  · have v0 := rvV_lt d a z0.bits
    have v2 := rvV_lt d (a - z0.bits) z2.bits
    have v1 := rvV_lt d (a - z0.bits - z2.bits) z1.bits
    have h2 : XI T0 T1 T2 { x with r1 := q.2.1, r2 := q.2.2.1, r3 := q.2.2.2, a := a - z0.bits - z2.bits - z1.bits, s0 := z0.next + rvV d a z0.bits, s2 := z2.next + rvV d (a - z0.bits) z2.bits, s1 := z1.next + rvV d (a - z0.bits - z2.bits) z1.bits } := ⟨hx.s, hx.bl, hr, Nat.lt_of_lt_of_le (Nat.add_lt_add_left v0 _) n0, Nat.lt_of_lt_of_le (Nat.add_lt_add_left v1 _) n1, Nat.lt_of_lt_of_le (Nat.add_lt_add_left v2 _) n2⟩
    exact sqDo_inv hL hLT h2 hml (by dsimp only; omega)
theorem sqLoop_inv (o0 : SOk 0 T0) (o1 : SOk 1 T1) (o2 : SOk 2 T2) (hL : ∀ i, L i < 256) (hLT : ∀ i, LT i < 256) : ∀ (k : Nat) {x : XS}, XI T0 T1 T2 x → XI T0 T1 T2 (sqLoop T0 T1 T2 d st L wl LT ll k x).1
  | 0, _, h => h
  | k + 1, x, h => by
    rw [sqLoop]
    have h1 := sqStep_inv (d := d) (st := st) (wl := wl) (ll := ll) o0 o1 o2 hL hLT (decide (k = 0)) h
    split
    · exact sqLoop_inv o0 o1 o2 hL hLT k h1
    · exact h1
end
theorem sOk_none (kind : Nat) : SOk kind STab.none := SOk.of (Nat.zero_le _) fun _ _ => ⟨⟨Nat.zero_le _, by show 0 + 2 ^ 0 ≤ _; decide, fun _ _ => Nat.zero_le _, fun _ => by show 0 + 2 ^ 0 ≤ _; decide⟩, Nat.zero_le _, Nat.le_refl _⟩
theorem sqExec_inv {e : CE} {n off cnt wl ll : Nat} {L LT T : Nat → Nat} (he : CEOk e) (hL : ∀ i, L i < 256) (hLT : ∀ i, LT i < 256) (hS : ∀ i, T i < 256) (hll : ll ≤ 131072) :
    (∀ i, (sqExec e d n off cnt L wl LT ll T).1.S i < 256) ∧ (sqExec e d n off cnt L wl LT ll T).1.bl ≤ 2 ^ 30 ∧ (sqExec e d n off cnt L wl LT ll T).1.r1 < 4294967296 ∧ (sqExec e d n off cnt L wl LT ll T).1.r2 < 4294967296 ∧ (sqExec e d n off cnt L wl LT ll T).1.r3 < 4294967296 := by
  have o0 : SOk 0 (e.t0.getD STab.none) := by
    cases h : e.t0 with
    | none => exact sOk_none 0
    | some t => exact he.t0 t h
  have o1 : SOk 1 (e.t1.getD STab.none) := by
    cases h : e.t1 with
    | none => exact sOk_none 1
    | some t => exact he.t1 t h
  have o2 : SOk 2 (e.t2.getD STab.none) := by
    cases h : e.t2 with
    | none => exact sOk_none 2
    | some t => exact he.t2 t h
  unfold sqExec
  dsimp only
  generalize e.t0.getD STab.none = T0 at *
  generalize e.t1.getD STab.none = T1 at *
  generalize e.t2.getD STab.none = T2 at *
  split
  · exact ⟨hS, Nat.zero_le _, he.r⟩
  split
  · exact ⟨hS, Nat.zero_le _, he.r⟩
  split
  · exact ⟨hS, Nat.zero_le _, he.r⟩
  split
  · exact ⟨hS, Nat.zero_le _, he.r⟩
  have h0 : XI T0 T1 T2 (⟨e.r1, e.r2, e.r3, T, 0, 0, rvA d (n - 1) - T0.log - T1.log - T2.log, rvV d (rvA d (n - 1)) T0.log, rvV d (rvA d (n - 1) - T0.log) T1.log, rvV d (rvA d (n - 1) - T0.log - T1.log) T2.log⟩ : XS) := ⟨hS, Nat.zero_le _, he.r, rvV_lt _ _ _, rvV_lt _ _ _, rvV_lt _ _ _⟩
  have h1 := sqLoop_inv (d := d) (st := off) (wl := wl) (ll := ll) o0 o1 o2 hL hLT cnt h0
  generalize sqLoop T0 T1 T2 d off L wl LT ll cnt _ = r at *
  have hb := h1.bl
  split
  · exact ⟨h1.s, by omega, h1.r⟩
  · exact ⟨apD_b h1.s fun i => hLT _, by dsimp only; omega, h1.r⟩
end Go.Proofs.YtogmacnlpclgkaaDoor
