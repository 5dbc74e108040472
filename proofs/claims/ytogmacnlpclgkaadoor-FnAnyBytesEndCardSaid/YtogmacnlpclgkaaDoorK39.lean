/-
  TEXTS MERGED: C31, C32, J8, C33, W29, W30.
-/
import Derived.Test.YtogmacnlpclgkaaDoorK38
import Derived.Test.YtogmacnlpclgkaaDoorK20
import Derived.Test.YtogmacnlpclgkaaDoorK12
/-! COMPRESSED BLOCKS 31: a step of one byte. -/
namespace Go.Proofs.YtogmacnlpclgkaaDoor
open Go Go.Eng Go.Pz
attribute [local irreducible] RO J Trip Quiet
set_option maxRecDepth 20000
variable {G : Mem} {S : Sent G} {dat : Nat → Nat} {N : Nat}

theorem stepB_t (src : Source S dat N) (hd : ∀ i, dat i < 256) (hsk : SkipT src) {E : Type} (Ext : E → RX → Mem → Prop) (cmp : PS E → Nat → PS E × Bool) (can : PS E → Nat → Prop) (hcmp : CmpT src Ext cmp can) (hgo : CmpGo N cmp)
    (ini : E → E) (hini : ∀ e x em, Ext e x em → Ext (ini e) x.ini em) (fb : Blk) (hfb : (2, fb) ∈ G) (hfn : 0 < fb.n) (hfv : fb.g 0 = .bool false) (hN : N ≤ 2 ^ 62)
    (Ok : PS E → Prop) (hOk : OkS dat N ini cmp can Ok) (rb : Nat) (p : PS E) (m : Mem) (hm : RdM src Ext rb p m) (hp : Ok p) (z : Int) (hz : z < 0) :
    Trip Tryd.prog G 27 #[.pointer (some ⟨rb, 0, none⟩), .int .i64 z] m (fun v m' =>
      ((rdByte dat N ini cmp p).2.1 = 0 ∧ ∃ m2 b, RdM src Ext rb (rdByte dat N ini cmp p).1 m2 ∧ m' = (b, listB [.int .u8 ((rdByte dat N ini cmp p).2.2 : Nat)] 5) :: m2 ∧ v = .agg #[.int .i64 1, .slice (some ⟨b, 0, none⟩) 1 1, .int .i64 0]) ∨
      ((rdByte dat N ini cmp p).2.1 ≠ 0 ∧ RdM src Ext rb (rdByte dat N ini cmp p).1 m' ∧ v = .agg #[.int .i64 0, .slice none 0 0, .int .i64 ((rdByte dat N ini cmp p).2.1 : Nat)])) := by
  refine Trip_of Tryd.func27 rfl (by show 2 ≤ _; decide) (args := [.pointer (some ⟨rb, 0, none⟩), .int .i64 z]) fun c h0 hex => ?_
  refine go _ ?_
  refine ro_alloc z49 rfl hex fun cb hcb => ?_
  refine go _ ?_
  refine J_condP rfl (fun _ => ?_) (fun h => absurd hz h)
  refine go _ ?_
  refine ro_callT (readByte_t src hd hsk Ext cmp can hcmp hgo ini hini fb hfb hfn hfv hN Ok hOk rb p m hm hp) ?_ (fm := [(cb, _)]) (hs := swap1 _ _)
  rintro v m2 ⟨e, hm2, rfl, he⟩
  generalize rdByte dat N ini cmp p = r at hm2 he ⊢
  obtain ⟨p2, k, w⟩ := r
  dsimp only at hm2 he ⊢
  refine RO_eqv (swap1 _ _).symm (fun _ h => J_eqv (swap1 _ _).symm h) ?_
  rcases he with ⟨rfl, rfl⟩ | ⟨rfl, he'⟩ | ⟨rfl, he'⟩
  · refine go _ ?_
    refine ro_buildSlice1 (z := .int .u8 0) (vs := [.int .u8 (w : Nat)]) rfl rfl z5 rfl rfl rfl rfl hex fun bb hbb => ?_
    refine go _ ?_
    refine ro_build1 (vs := [.int .i64 1, .slice (some ⟨bb, 0, none⟩) 1 1, .int .i64 0]) rfl rfl z49 rfl rfl rfl rfl ?_
    refine go _ ?_
    refine ro_storeAgg (s := 2) (vs := [.int .i64 1, .slice (some ⟨bb, 0, none⟩) 1 1, .int .i64 0]) rfl rfl rfl rfl (fun v hv => by simp only [List.mem_cons, List.not_mem_nil, or_false] at hv; rcases hv with rfl | rfl | rfl <;> rfl) (.there .here) (Nat.le_refl 3) rfl hex ?_
    refine go _ ?_
    refine J_ret ?_
    exact ends_retC [.cell 4 49] [.agg #[.int .i64 1, .slice (some ⟨bb, 0, none⟩) 1 1, .int .i64 0]] ⟨⟨cb, 0, 2, _, rfl, rfl, rfl, List.mem_cons_of_mem _ List.mem_cons_self, Nat.le_refl 3, rfl⟩, trivial⟩ (post := (bb, listB [.int .u8 (w : Nat)] 5) :: m2) (junk := [(cb, _)]) (.inl ⟨rfl, m2, bb, hm2, rfl, rfl⟩) rfl (.skip (swap1 _ _))
  · obtain rfl : e = .iface 122 (.pointer (some ⟨S.eb, S.eo, none⟩)) := he'
    have he : EndV S 1 (.iface 122 (.pointer (some ⟨S.eb, S.eo, none⟩))) := .inr (.inl ⟨rfl, rfl⟩)
    refine go _ ?_
    refine ro_callT (end_t S _ _ he) ?_
    rintro v m ⟨rfl, rfl⟩
    refine go _ ?_
    refine ro_build1 (vs := [.int .i64 0, .slice none 0 0, .int .i64 ((1 : Nat) : Int)]) rfl rfl z49 rfl rfl rfl rfl ?_
    refine go _ ?_
    refine ro_storeAgg (s := 2) (vs := [.int .i64 0, .slice none 0 0, .int .i64 ((1 : Nat) : Int)]) rfl rfl rfl rfl (fun v hv => by simp only [List.mem_cons, List.not_mem_nil, or_false] at hv; rcases hv with rfl | rfl | rfl <;> rfl) .here (Nat.le_refl 3) rfl hex ?_
    refine go _ ?_
    refine J_ret ?_
    exact ends_retC [.cell 4 49] [.agg #[.int .i64 0, .slice none 0 0, .int .i64 ((1 : Nat) : Int)]] ⟨⟨cb, 0, 2, _, rfl, rfl, rfl, List.mem_cons_self, Nat.le_refl 3, rfl⟩, trivial⟩ (post := m2) (junk := [(cb, _)]) (.inr ⟨by decide, hm2, rfl⟩) rfl (swap1 _ _)
  · obtain ⟨et, b', eo, rfl⟩ := ErrB.form he'
    have he : EndV S 2 (.iface et (.pointer (some ⟨b', eo, none⟩))) := .inr (.inr ⟨rfl, he'⟩)
    refine go _ ?_
    refine ro_callT (end_t S _ _ he) ?_
    rintro v m ⟨rfl, rfl⟩
    refine go _ ?_
    refine ro_build1 (vs := [.int .i64 0, .slice none 0 0, .int .i64 ((2 : Nat) : Int)]) rfl rfl z49 rfl rfl rfl rfl ?_
    refine go _ ?_
    refine ro_storeAgg (s := 2) (vs := [.int .i64 0, .slice none 0 0, .int .i64 ((2 : Nat) : Int)]) rfl rfl rfl rfl (fun v hv => by simp only [List.mem_cons, List.not_mem_nil, or_false] at hv; rcases hv with rfl | rfl | rfl <;> rfl) .here (Nat.le_refl 3) rfl hex ?_
    refine go _ ?_
    refine J_ret ?_
    exact ends_retC [.cell 4 49] [.agg #[.int .i64 0, .slice none 0 0, .int .i64 ((2 : Nat) : Int)]] ⟨⟨cb, 0, 2, _, rfl, rfl, rfl, List.mem_cons_self, Nat.le_refl 3, rfl⟩, trivial⟩ (post := m2) (junk := [(cb, _)]) (.inr ⟨by decide, hm2, rfl⟩) rfl (swap1 _ _)
theorem rdByte_ok (hd : ∀ i, dat i < 256) {p : PS CE} (hp : POk p) : POk (rdByte dat N CE.ini (cmpBlk dat N) p).1 := by
  have h := rdNeed_ok (N := N) hd (N + 1) hp
  unfold rdByte
  split
  · exact ⟨h.s, h.l, h.e, h.w⟩
  · exact h
end Go.Proofs.YtogmacnlpclgkaaDoor

/-! COMPRESSED BLOCKS 32: a step of any kind. -/
namespace Go.Proofs.YtogmacnlpclgkaaDoor
open Go Go.Eng Go.Pz
attribute [local irreducible] RO J Trip Quiet
set_option maxRecDepth 20000
variable {G : Mem} {S : Sent G} {dat : Nat → Nat} {N : Nat}

/-- A slice of whole numbers that is only read. -/
structure ViewI (M : Mem) (oa : Option Addr) (n cp : Nat) (x : Nat → Int) : Prop where
  le : n ≤ cp
  is : (oa = none ∧ n = 0 ∧ cp = 0) ∨ ∃ b o B, oa = some ⟨b, o, none⟩ ∧ (b, B) ∈ M ∧ (0 < n → o + n ≤ B.n) ∧ ∀ i, i < n → B.g (o + i) = .int .i64 (x i)
theorem ViewI.mono {M M' : Mem} {oa : Option Addr} {n cp : Nat} {x : Nat → Int} (v : ViewI M oa n cp x) (h : ∀ p ∈ M, p ∈ M') : ViewI M' oa n cp x := by
  obtain ⟨hle, hv⟩ := v
  rcases hv with h1 | ⟨b, o, B, h1, hm, h2⟩
  · exact ⟨hle, .inl h1⟩
  · exact ⟨hle, .inr ⟨b, o, B, h1, h _ hm, h2⟩⟩

/-- What a step asks for. -/
def askZ (z : Int) : Nat := if z < 0 then 1 else z.toNat
/-- A step: the state behind it, how many bytes, how it ends, which. -/
def stp (dat : Nat → Nat) (N : Nat) (p : PS CE) (z : Int) : PS CE × Nat × Nat × (Nat → Nat) :=
  if z < 0 then ((rdByte dat N CE.ini (cmpBlk dat N) p).1, (if (rdByte dat N CE.ini (cmpBlk dat N) p).2.1 = 0 then 1 else 0), (rdByte dat N CE.ini (cmpBlk dat N) p).2.1, fun _ => (rdByte dat N CE.ini (cmpBlk dat N) p).2.2)
  else ((rdRead dat N CE.ini (cmpBlk dat N) z.toNat p).1, (rdRead dat N CE.ini (cmpBlk dat N) z.toNat p).2.1, (rdRead dat N CE.ini (cmpBlk dat N) z.toNat p).2.2, rdGot dat N CE.ini (cmpBlk dat N) p)
/-- .. behind i steps. -/
def stpAt (dat : Nat → Nat) (N : Nat) (p : PS CE) (z : Nat → Int) : Nat → PS CE
  | 0 => p
  | i + 1 => (stp dat N (stpAt dat N p z i) (z i)).1

theorem rdHd_le {E : Type} {ini : E → E} (p : PS E) : (rdHd dat N ini p).2 ≤ 2 := by
  unfold rdHd
  split
  · exact Nat.zero_le _
  unfold rdHdr
  split
  · dsimp only; split <;> omega
  · exact Nat.le_refl _
  · exact Nat.le_refl _
  · exact Nat.zero_le _
theorem rdFill_le {E : Type} {ini : E → E} {cmp : PS E → Nat → PS E × Bool} (p : PS E) : (rdFill dat N ini cmp p).2 ≤ 2 := by
  unfold rdFill
  split
  · dsimp only; split <;> omega
  · exact rdHd_le p
theorem rdNeed_le {E : Type} {ini : E → E} {cmp : PS E → Nat → PS E × Bool} : ∀ (f : Nat) (p : PS E), (rdNeed dat N ini cmp f p).2 ≤ 2
  | 0, _ => Nat.le_refl _
  | f + 1, p => by
    rw [rdNeed]
    split
    · exact Nat.zero_le _
    split
    · exact rdNeed_le f _
    · exact rdFill_le p
theorem stp_ok (hd : ∀ i, dat i < 256) {p : PS CE} (hp : POk p) (z : Int) : POk (stp dat N p z).1 := by
  unfold stp
  split
  · exact rdByte_ok hd hp
  · exact rdRead_ok hd _ hp
theorem stp_k (p : PS CE) (z : Int) : (stp dat N p z).2.1 ≤ askZ z := by
  unfold stp askZ
  split
  · dsimp only; split <;> omega
  · unfold rdRead
    split
    · exact Nat.min_le_left _ _
    · exact Nat.zero_le _
theorem stp_code (p : PS CE) (z : Int) : (stp dat N p z).2.2.1 ≤ 2 := by
  unfold stp
  split
  · unfold rdByte
    split
    · exact Nat.zero_le _
    · exact rdNeed_le _ _
  · unfold rdRead
    split
    · exact Nat.zero_le _
    · exact rdNeed_le _ _

/-- What the decoder asks of the variables. -/
structure Vars (G : Mem) : Prop where
  b0 : BaseG G 4 litBase
  b2 : BaseG G 5 matBase
  fz : ∃ fb : Blk, (2, fb) ∈ G ∧ 0 < fb.n ∧ fb.g 0 = .bool false

theorem step2_t (V : Vars G) (src : Source S dat N) (hd : ∀ i, dat i < 256) (hsk : SkipT src) (hN : N ≤ 2 ^ 62) (rb : Nat) (p : PS CE) (m : Mem) (hm : RdM src ExtC rb p m) (hp : POk p) (z : Int) (hz : z ≤ 2 ^ 40) :
    Trip Tryd.prog G 27 #[.pointer (some ⟨rb, 0, none⟩), .int .i64 z] m (fun v m' => ∃ m2 bl oa cp, RdM src ExtC rb (stp dat N p z).1 m2 ∧ m' = bl ++ m2 ∧
      v = .agg #[.int .i64 ((stp dat N p z).2.1 : Nat), .slice oa (stp dat N p z).2.1 cp, .int .i64 ((stp dat N p z).2.2.1 : Nat)] ∧ View bl oa (stp dat N p z).2.1 cp (stp dat N p z).2.2.2) := by
  obtain ⟨fb, hfb, hfn, hfv⟩ := V.fz
  unfold stp
  by_cases h0 : z < 0
  · rw [if_pos h0]
    refine (stepB_t src hd hsk ExtC (cmpBlk dat N) _ (cmp_t src hd V.b0 V.b2 hN) (cmpBlk_go dat N) CE.ini extC_ini fb hfb hfn hfv hN POk (cmp_oks hd) rb p m hm hp z h0).mono ?_
    dsimp only
    rintro v m' (⟨h1, m2, b, h2, rfl, rfl⟩ | ⟨h1, h2, rfl⟩)
    · refine ⟨m2, [(b, _)], some ⟨b, 0, none⟩, 1, h2, rfl, ?_, ⟨?_, .inr ⟨b, 0, _, rfl, List.mem_singleton.2 rfl, fun _ => ?_, fun i hi => ?_⟩⟩⟩
      · rw [if_pos h1, h1]; rfl
      · rw [if_pos h1]; exact Nat.le_refl _
      · rw [if_pos h1]; exact Nat.le_refl _
      · rw [if_pos h1] at hi
        obtain rfl : i = 0 := by omega
        rfl
    · refine ⟨m', [], none, 0, h2, rfl, ?_, ⟨?_, .inl ⟨rfl, ?_, rfl⟩⟩⟩
      · rw [if_neg h1]; rfl
      · rw [if_neg h1]; exact Nat.le_refl _
      · rw [if_neg h1]
  · rw [if_neg h0]
    obtain ⟨n, rfl⟩ : ∃ n : Nat, z = (n : Nat) := ⟨z.toNat, by omega⟩
    rw [Int.toNat_natCast]
    refine (step_t src hd hsk ExtC (cmpBlk dat N) _ (cmp_t src hd V.b0 V.b2 hN) (cmpBlk_go dat N) CE.ini extC_ini fb hfb hfn hfv hN POk (cmp_oks hd) rb p m hm hp n (by omega)).mono ?_
    dsimp only
    rintro v m' ⟨m2, b, B, h1, rfl, rfl, h2, h3, h4, h5, -⟩
    exact ⟨m2, [(b, B)], some ⟨b, 0, none⟩, n, h1, rfl, rfl, h4, .inr ⟨b, 0, B, rfl, List.mem_singleton.2 rfl, fun _ => by omega, fun i hi => by rw [Nat.zero_add]; exact h5 i hi⟩⟩
end Go.Proofs.YtogmacnlpclgkaaDoor

/-! JOINS 8: the two arrays of bases; lists of whole numbers as arguments. -/
namespace Go.Proofs.YtogmacnlpclgkaaDoor
open Go Go.Eng Go.ChangeShapes Go.WideShapes Go.RowKit
set_option maxRecDepth 100000

def numD : DataW Unit → Int
  | .lit (.int _ n) => n
  | _ => 0
theorem lits_numD {k : IntKind} (l : List Int) : (Go.ChangeShapes.lits (H := Unit) k l).map numD = l := by
  unfold Go.ChangeShapes.lits
  rw [List.map_map]
  exact (List.map_congr_left fun a _ => rfl).trans (List.map_id l)
theorem base_of {W : World} {n : String} {gid : Nat} {l : List (Nat × Nat)} {L R : List (DataW Unit)} (h : laidMet Tryd.prog [(n, .slice L R)] W) (hg : Tryd.prog.globalNamed n = some gid)
    (ht : (Tryd.prog.globals[gid]?).map (·.type) = some 42) (hL : L.map numD = l.map fun p => ((p.1 + p.2 * 16777216 : Nat) : Int)) (hl0 : 0 < l.length) : BaseG (heapG W.heap) gid l := by
  obtain ⟨ps, ⟨g0, t0, cs0, f0, p0, q0, hg0, ht0, hv0, hd0, hq0, e0⟩, hnd, hrows⟩ := h
  obtain rfl := Option.some.inj (hg.symm.trans hg0)
  obtain rfl := Option.some.inj (ht.symm.trans ht0)
  rcases open_ints (u_sl (P := Tryd.prog) (T := 42) (e := 40) rfl) (u_int (P := Tryd.prog) (T := 40) (k := .u32) rfl) (by kernel_rfl) hd0 with ⟨_, hx⟩ | ⟨a, len, cap, zs, hcs, _, hle, _, hlen, hx, hc, _⟩
  · cases hx
  simp only [if_true] at hlen
  have hL2 : L = Go.ChangeShapes.lits .u32 (zs.take len) := by injection (Prod.mk.inj hx).1
  rw [hL2, lits_numD] at hL
  have hln : len = l.length := by
    have := congrArg List.length hL
    rw [List.length_take, List.length_map] at this
    omega
  have hz : ∀ i, i < l.length → zs.getD i 0 = (((l.getD i (0, 0)).1 + (l.getD i (0, 0)).2 * 16777216 : Nat) : Int) := fun i hi => by
    have h1 : (zs.take len)[i]? = zs[i]? := by rw [List.getElem?_take, if_pos (by omega)]
    rw [hL, List.getElem?_map, List.getElem?_eq_getElem hi] at h1
    rw [List.getD_eq_getElem?_getD, ← h1, List.getD_eq_getElem?_getD, List.getElem?_eq_getElem hi]
    rfl
  have hsp : a.spot = none := by
    have h1 := hc 0 (by omega)
    unfold World.cell? at h1
    split at h1
    · cases hsp : (a.add 0).spot with
      | none => exact hsp
      | some k => rw [hsp] at h1; simp at h1
    · cases h1
  obtain ⟨b, o, sp⟩ := a
  subst hsp
  have hc' : ∀ i, i < l.length → W.cell? ⟨b, o + i, none⟩ = some (.int .u32 (zs.getD i 0)) := fun i hi => by
    have := hc i (by omega)
    rwa [Addr_add] at this
  obtain ⟨cs, T, fr, hb, _, _⟩ := cell_some (hc' 0 hl0)
  have hat : ∀ i, i < l.length → o + i < cs.size ∧ cs.getD (o + i) undef = .int .u32 (zs.getD i 0) := fun i hi => by
    obtain ⟨cs', T', fr', hb', hlt, hv⟩ := cell_some (hc' i hi)
    rw [hb] at hb'
    cases hb'
    exact ⟨hlt, hv⟩
  obtain ⟨c0⟩ := cs0
  have hcs' : c0 = [.slice (some ⟨b, o, none⟩) len cap] := hcs
  subst hcs'
  obtain ⟨B1, hB1, hn1, hv1⟩ := varBlk hg hv0
  refine ⟨B1, b, o, cap, _, hB1, hn1, by rw [hv1, hln], heapG_mem hb, ?_, fun i hi => ?_⟩
  · have := (hat (l.length - 1) (by omega)).1
    show o + l.length ≤ cs.size
    omega
  · exact (hat i hi).2.trans (by rw [hz i hi])
theorem gn_lit : Tryd.prog.globalNamed "framesunpacked/pub/zstd.literalLengthBase" = some 4 := by kernel_rfl
theorem gn_mat : Tryd.prog.globalNamed "framesunpacked/pub/zstd.matchLengthBase" = some 5 := by kernel_rfl
theorem gt_lit : (Tryd.prog.globals[4]?).map (·.type) = some 42 := by kernel_rfl
theorem gt_mat : (Tryd.prog.globals[5]?).map (·.type) = some 42 := by kernel_rfl
def keepLit (x : String × DataW Unit) : Bool := x.1 == "framesunpacked/pub/zstd.literalLengthBase"
def keepMat (x : String × DataW Unit) : Bool := x.1 == "framesunpacked/pub/zstd.matchLengthBase"
theorem laid6_lit : laid6.filter keepLit = [("framesunpacked/pub/zstd.literalLengthBase", Rows.laid_framesunpacked_pub_zstd_literalLengthBase)] := by kernel_rfl
theorem laid6_mat : laid6.filter keepMat = [("framesunpacked/pub/zstd.matchLengthBase", Rows.laid_framesunpacked_pub_zstd_matchLengthBase)] := by kernel_rfl
/-- What the decoder asks of the variables. -/
theorem laid_vars {W : World} (h : laidMet Tryd.prog laid6 W) : Vars (heapG W.heap) := by
  have h0 := h.filter keepLit
  rw [laid6_lit] at h0
  have h2 := h.filter keepMat
  rw [laid6_mat] at h2
  obtain ⟨_, fb, hfb, hfn, hfv⟩ := laid_sent (laid6_to4 h)
  exact ⟨base_of h0 gn_lit gt_lit (by kernel_rfl) (by decide), base_of h2 gn_mat gt_mat (by kernel_rfl) (by decide), fb, hfb, hfn, hfv⟩

/-- An argument of type []int. -/
theorem viewI_of_trod {H : Type} {enc : TypeId × Value → H} {P : Program} {w : World} {base : Nat} {t e : TypeId} {v : Value} {d : DataW H} {ps : List MemPlace} (ht : P.underlying t = some (.slice e)) (he : P.underlying e = some (.int .i64)) (hc : P.cellsOf e = 1)
    (hval : Value.okWide P w .any base t v) (h : DataW.Trod enc P w 0 (fun _ => true) true t v d ps) : ∃ oa n cp x, v = .slice oa n cp ∧ ViewI (heapG w.heap) oa n cp x ∧ cp ≤ maxLen := by
  obtain ⟨fuel, h⟩ := h
  rcases slice_cells ht hval with rfl | ⟨b, o, len, cap, row, c, rfl, hr⟩
  · exact ⟨none, 0, 0, fun _ => 0, rfl, ⟨Nat.le_refl _, .inl ⟨rfl, rfl, rfl⟩⟩, Nat.zero_le _⟩
  · rcases open_ints ht he hc h with ⟨h1, _⟩ | ⟨a, len', cap', zs, h1, _, h2, h3, h4, _, h5, h6⟩
    · simp [Value.cells] at h1
    · simp only [Value.cells, List.cons.injEq, Value.slice.injEq, Option.some.injEq, and_true] at h1
      obtain ⟨rfl, rfl, rfl⟩ := h1
      simp only [if_true] at h4
      have hc' : ∀ i, i < cap → w.cell? ⟨b, o + i, none⟩ = some (.int .i64 (zs.getD i 0)) := fun i hi => by
        have := h5 i (by omega)
        rwa [Addr_add] at this
      obtain ⟨cs, T, fr, hb⟩ : ∃ cs T fr, w.heap[b]? = some (.cells cs T fr) := by
        unfold World.shape? at hr
        split at hr
        · rename_i cs T fr hb; exact ⟨cs, T, fr, hb⟩
        · cases hr
      refine ⟨_, len, cap, fun i => zs.getD i 0, rfl, ⟨h2, .inr ⟨b, o, _, rfl, heapG_mem hb, fun h0 => ?_, fun i hi => ?_⟩⟩, h3⟩
      · obtain ⟨cs', T', fr', hb', hlt, _⟩ := cell_some (hc' (len - 1) (by omega))
        rw [hb] at hb'
        cases hb'
        show o + len ≤ cs.size
        omega
      · obtain ⟨cs', T', fr', hb', hlt, hv⟩ := cell_some (hc' i (by omega))
        rw [hb] at hb'
        cases hb'
        exact hv
end Go.Proofs.YtogmacnlpclgkaaDoor

/-! COMPRESSED BLOCKS 33: calls of many sizes. -/
namespace Go.Proofs.YtogmacnlpclgkaaDoor
open Go Go.Eng Go.Pz
attribute [local irreducible] RO J Trip Quiet
set_option maxRecDepth 20000
variable {G : Mem} {dat : Nat → Nat} {N : Nat}

theorem ViewI.some {M : Mem} {oa : Option Addr} {n cp : Nat} {x : Nat → Int} (v : ViewI M oa n cp x) (h : 0 < n) : ∃ b o B, oa = .some ⟨b, o, none⟩ ∧ (b, B) ∈ M ∧ o + n ≤ B.n ∧ ∀ i, i < n → B.g (o + i) = .int .i64 (x i) := by
  rcases v.is with ⟨_, h1, _⟩ | ⟨b, o, B, h1, h2, h3, h4⟩
  · omega
  · exact ⟨b, o, B, h1, h2, h3 h, h4⟩

theorem asked_t (z : Int) : Trip Tryd.prog G 18 #[.int .i64 z] [] (fun v m => m = [] ∧ v = .int .i64 (askZ z : Nat)) := by
  refine Trip_of Tryd.func18 rfl (by show 1 ≤ _; decide) (args := [.int .i64 z]) fun c h0 hex => ?_
  unfold askZ
  refine go _ ?_
  refine J_condP rfl (fun h => ?_) (fun h => ?_)
  · refine go _ ?_
    refine J_ret ?_
    exact ends_retS [2] ⟨rfl, by rw [if_pos h]; rfl⟩
  · refine go _ ?_
    refine J_ret ?_
    exact ends_retS [2] ⟨rfl, by
      rw [if_neg h]
      show Value.int .i64 z = Value.int .i64 _
      congr 1
      have h : ¬ z < 0 := h
      omega⟩

theorem tooMany_t (ob : Option Addr) (n cp : Nat) (z : Nat → Int) (hz : ViewI G ob n cp z) (hn : n ≤ 2 ^ 40) :
    Trip Tryd.prog G 16 #[.slice ob n cp] [] (fun v m => m = [] ∧ ∃ b, v = .bool b ∧ (b = false → ∀ i, i < n → z i ≤ 4194304)) := by
  refine Trip_of Tryd.func16 rfl (by show 1 ≤ _; decide) (args := [.slice ob n cp]) fun c h0 hex => ?_
  refine go _ ?_
  refine J_loopL (σ := Nat × Nat) [] (fun t => [(3, .int .i64 (t.2 : Nat)), (6, .slice ob n cp), (7, .int .i64 (n : Nat)), (8, .int .i64 (t.1 : Nat))]) (fun _ => []) (fun t => t.1 ≤ n ∧ t.2 ≤ 4194304 ∧ ∀ i, i < t.1 → z i ≤ 4194304) (fun t => n - t.1) (0, 0) (.refl _) ⟨Nat.zero_le _, Nat.zero_le _, fun i hi => absurd hi (Nat.not_lt_zero _)⟩ ?_
  rintro ⟨i, s⟩ f ⟨hi, hs, hzi⟩
  dsimp only at hi hs hzi ⊢
  refine go _ ?_
  refine J_condP rfl (fun hlt => ?_) (fun hge => ?_)
  · have hlt' : i < n := by omega
    obtain ⟨b, o, B, rfl, hB, hBn, hBg⟩ := hz.some (by omega)
    refine go _ ?_
    refine ro_loadA (v := .int .i64 (z i)) rfl rfl hB (by omega) (hBg i hlt') rfl ?_
    refine go _ ?_
    refine J_condP rfl (fun h1 => ?_) (fun h1 => ?_)
    · refine go _ ?_
      refine J_ret ?_
      exact ends_retS [2] ⟨rfl, true, rfl, fun h => by cases h⟩
    have hz1 : z i ≤ 4194304 := by omega
    have hask : askZ (z i) ≤ 4194304 := by unfold askZ; split <;> omega
    refine go _ ?_
    refine ro_callT (asked_t (z i)) ?_
    rintro v m ⟨rfl, rfl⟩
    generalize askZ (z i) = k at hask
    refine go _ ?_
    refine J_condP rfl (fun h2 => ?_) (fun h2 => ?_)
    · refine go _ ?_
      refine J_ret ?_
      exact ends_retS [2] ⟨rfl, true, rfl, fun h => by cases h⟩
    refine go _ ?_
    exact ⟨(i + 1, s + k), by dsimp only; omega, ⟨by dsimp only; omega, by dsimp only; omega, fun j hj => by
      by_cases he : j = i
      · rw [he]; exact hz1
      · exact hzi j (by dsimp only at hj; omega)⟩, ⟨rfl, rfl, rfl, rfl, trivial⟩, .refl _⟩
  · refine go _ ?_
    refine J_ret ?_
    exact ends_retS [2] ⟨rfl, false, rfl, fun _ j hj => hzi j (by omega)⟩

/-- The records of n calls, and where their bytes lie. -/
def StM (dat : Nat → Nat) (N : Nat) (p0 : PS CE) (z : Nat → Int) (v : Value) (n : Nat) (om bl : Mem) : Prop :=
  ∃ cl : Nat → Value, SlM 3 v n cl om ∧ ∀ i, i < n → ∃ oa cp, cl (3 * i) = .int .i64 ((stp dat N (stpAt dat N p0 z i) (z i)).2.1 : Nat) ∧ cl (3 * i + 1) = .slice oa (stp dat N (stpAt dat N p0 z i) (z i)).2.1 cp ∧
    cl (3 * i + 2) = .int .i64 ((stp dat N (stpAt dat N p0 z i) (z i)).2.2.1 : Nat) ∧ View bl oa (stp dat N (stpAt dat N p0 z i) (z i)).2.1 cp (stp dat N (stpAt dat N p0 z i) (z i)).2.2.2
theorem stpAt_ok (hd : ∀ i, dat i < 256) {p0 : PS CE} (h : POk p0) (z : Nat → Int) : ∀ i, POk (stpAt dat N p0 z i)
  | 0 => h
  | i + 1 => stp_ok hd (stpAt_ok hd h z i) (z i)

structure StpS where
  i : Nat
  m : Mem
  om : Mem
  bl : Mem
  j : Mem
  oa : Option Addr
  cp : Nat

set_option maxHeartbeats 1000000 in
theorem steps_t (S : Sent G) (V : Vars G) (hd : ∀ i, dat i < 256) (oa : Option Addr) (cp : Nat) (hv : View G oa N cp dat) (hN : N < 2 ^ 60) (ob : Option Addr) (n cq : Nat) (z : Nat → Int) (hz : ViewI G ob n cq z) (hn : n ≤ 2 ^ 39) (hzl : ∀ i, i < n → z i ≤ 4194304) :
    Trip Tryd.prog G 17 #[.slice oa N cp, .slice ob n cq] [] (fun v m => ∃ om bl, m = om ++ bl ∧ StM dat N (PS.init CE.zero) z v n om bl) := by
  refine Trip_of Tryd.func17 rfl (by show 2 ≤ _; decide) (args := [.slice oa N cp, .slice ob n cq]) fun c h0 hex => ?_
  refine go _ ?_
  refine ro_callT (bnew_t oa N cp) ?_
  rintro v m ⟨bb, rfl, rfl⟩
  refine go _ ?_
  refine ro_callT (newReader_t G 65 (.pointer (some ⟨bb, 0, none⟩))) ?_
  rintro v m ⟨rb, rfl, rfl⟩
  refine go _ ?_
  have hm0 := init_rdM S oa cp bb hv hN ExtC CE.zero extC_zero rb
  refine J_loopL (σ := StpS) [] (fun t => [(5, .pointer (some ⟨rb, 0, none⟩)), (6, .slice t.oa t.i t.cp), (13, .slice ob n cq), (14, .int .i64 (n : Nat)), (15, .int .i64 (t.i : Nat))]) (fun t => t.m ++ (t.om ++ (t.bl ++ t.j)))
    (fun t => t.i ≤ n ∧ RdM (bsrc S dat oa N cp bb hv hN) ExtC rb (stpAt dat N (PS.init CE.zero) z t.i) t.m ∧ StM dat N (PS.init CE.zero) z (.slice t.oa t.i t.cp) t.i t.om t.bl) (fun t => n - t.i) ⟨0, _, [], [], [], none, 0⟩ (by simp only [List.append_nil]; exact .refl _)
    ⟨Nat.zero_le _, hm0, fun _ => undef, .inl ⟨rfl, rfl, rfl⟩, fun i hi => absurd hi (Nat.not_lt_zero _)⟩ ?_
  rintro ⟨i, m1, om, bl, j1, oa1, cp1⟩ f ⟨hi, hm1, hst⟩
  dsimp only at hi hm1 hst ⊢
  refine go _ ?_
  refine J_condP rfl (fun hlt => ?_) (fun hge => ?_)
  · have hlt' : i < n := by omega
    obtain ⟨b, o, B, rfl, hB, hBn, hBg⟩ := hz.some (by omega)
    refine go _ ?_
    refine ro_loadA (v := .int .i64 (z i)) rfl rfl (List.mem_append.2 (.inr hB)) (by omega) (hBg i hlt') rfl ?_
    refine go _ ?_
    have hzi := hzl i hlt'
    refine ro_callT (step2_t V (bsrc S dat oa N cp bb hv hN) hd (bskip_t S dat hd oa N cp bb hv hN) (by omega) rb _ m1 hm1 (stpAt_ok hd pok_init z i) (z i) (by omega)) ?_ (fm := om ++ (bl ++ j1)) (hs := .refl _)
    rintro v m' ⟨m2, bl1, oa2, cp2, hm2, rfl, rfl, hv2⟩
    have hcod := stp_code (dat := dat) (N := N) (stpAt dat N (PS.init CE.zero) z i) (z i)
    have hat : stpAt dat N (PS.init CE.zero) z (i + 1) = (stp dat N (stpAt dat N (PS.init CE.zero) z i) (z i)).1 := rfl
    obtain ⟨cl, hsl, hcl⟩ := hst
    have hcl2 : ∀ k, k = i → ∃ oa cp, (stp dat N (stpAt dat N (PS.init CE.zero) z k) (z k)).2.1 = (stp dat N (stpAt dat N (PS.init CE.zero) z i) (z i)).2.1 := fun k hk => by subst hk; exact ⟨oa, cp, rfl⟩
    generalize hrr : stp dat N (stpAt dat N (PS.init CE.zero) z i) (z i) = r at hm2 hv2 hcod hat
    obtain ⟨p2, k, code, D⟩ := r
    dsimp only at hm2 hv2 hcod hat ⊢
    refine go _ ?_
    refine ro_buildSliceA (s := 2) [[.int .i64 (k : Nat), .slice oa2 k cp2, .int .i64 (code : Nat)]] rfl rfl z49 rfl (by decide) (fun a ha => by rw [List.mem_singleton.1 ha]; rfl) rfl rfl rfl hex fun eb heb => ?_
    refine go _ ?_
    refine ro_appendMF (s := 2) (src := fun x => (listB ([[Value.int .i64 (k : Nat), .slice oa2 k cp2, .int .i64 (code : Nat)]].flatten) 49).g (0 + x)) (k := 1) (len := i) (v := .slice oa1 i cp1) (cl := cl) (sm := om) (fm := (eb, listB ([[Value.int .i64 (k : Nat), .slice oa2 k cp2, .int .i64 (code : Nat)]].flatten) 49) :: (bl1 ++ (m2 ++ (bl ++ j1)))) rfl rfl rfl rfl z49 (by decide) rfl rfl hsl
      (by classical exact List.perm_iff_count.2 fun a => by first | (simp only [List.count_append, List.count_cons, List.count_nil]; omega) | (simp only [List.append_eq, List.count_append, List.count_cons, List.count_nil]; omega)) (Src.of (B := listB ([[Value.int .i64 (k : Nat), .slice oa2 k cp2, .int .i64 (code : Nat)]].flatten) 49) (by simp) (by show 0 + 1 * (2 + 1) ≤ 3; decide)) (fun j hj => ?_) (by omega) hex rfl ?_
    · rw [Nat.zero_add]
      match j, hj with
      | 0, _ => rfl
      | 1, _ => rfl
      | 2, _ => rfl
    intro v' sm' hv' hone'
    obtain ⟨oa', cp', rfl⟩ := slmForm hv'
    refine go _ ?_
    refine ⟨⟨i + 1, m2, sm', bl1 ++ bl, (eb, listB ([[Value.int .i64 (k : Nat), .slice oa2 k cp2, .int .i64 (code : Nat)]].flatten) 49) :: j1, oa', cp'⟩, by dsimp only; omega, ⟨by dsimp only; omega, by dsimp only; rw [hat]; exact hm2, _, hv', fun x hx => ?_⟩, ⟨rfl, rfl, rfl, rfl, rfl, trivial⟩, .of_perm (by classical exact List.perm_iff_count.2 fun a => by first | (simp only [List.count_append, List.count_cons, List.count_nil]; omega) | (simp only [List.append_eq, List.count_append, List.count_cons, List.count_nil]; omega))⟩
    dsimp only at hx ⊢
    by_cases he : x = i
    · subst he
      rw [hrr]
      dsimp only
      refine ⟨oa2, cp2, ?_, ?_, ?_, hv2.mono fun p hp => List.mem_append.2 (.inl hp)⟩
      · rw [if_neg (by omega), show 3 * x - x * (2 + 1) = 0 by omega]; rfl
      · rw [if_neg (by omega), show 3 * x + 1 - x * (2 + 1) = 1 by omega]; rfl
      · rw [if_neg (by omega), show 3 * x + 2 - x * (2 + 1) = 2 by omega]; rfl
    · obtain ⟨oa3, cp3, c1, c2, c3, c4⟩ := hcl x (by omega)
      refine ⟨oa3, cp3, ?_, ?_, ?_, c4.mono fun p hp => List.mem_append.2 (.inr hp)⟩
      · rw [if_pos (by omega)]; exact c1
      · rw [if_pos (by omega)]; exact c2
      · rw [if_pos (by omega)]; exact c3
  · obtain rfl : i = n := by omega
    refine go _ ?_
    refine J_ret ?_
    exact ends_retS [4] (post := om ++ bl) (junk := m1 ++ j1) ⟨om, bl, rfl, hst⟩ rfl (.of_perm (by classical exact List.perm_iff_count.2 fun a => by first | (simp only [List.count_append, List.count_cons, List.count_nil]; omega) | (simp only [List.append_eq, List.count_append, List.count_cons, List.count_nil]; omega)))
end Go.Proofs.YtogmacnlpclgkaaDoor

/-! WALKS 29: THE REFERENCE: low, Sized. -/
namespace Go.Proofs.YtogmacnlpclgkaaDoor
open Go Go.Eng
attribute [local irreducible] RO J Trip Quiet
set_option maxRecDepth 20000
variable {G : Mem}

theorem slmSrc {M sm : Mem} {s len : Nat} {v : Value} {cl : Nat → Value} (h : SlM s v len cl sm) (hM : ∀ p ∈ sm, p ∈ M) : ∃ src, Src M s v len src ∧ ∀ i, i < len * s → src i = cl i := by
  rcases h with ⟨rfl, rfl, rfl⟩ | ⟨b, o, cap, B, rfl, rfl, hf, ho, hlc, hg⟩
  · exact ⟨fun _ => undef, .inr ⟨rfl, none, 0, rfl⟩, fun i hi => absurd hi (by simp)⟩
  · exact ⟨fun j => B.g (o + j), .inl ⟨b, o, cap, B, rfl, hM _ List.mem_cons_self, by have := Nat.mul_le_mul_right s hlc; omega, rfl⟩, hg⟩
theorem slmView {sm : Mem} {oa : Option Addr} {len cp : Nat} {z : Nat → Nat} (h : SlM 1 (.slice oa len cp) len (u8f z) sm) : View sm oa len cp z := by
  rcases h with ⟨h1, rfl, rfl⟩ | ⟨b, o, cap, B, h1, rfl, hf, ho, hlc, hg⟩
  · cases h1; exact ⟨Nat.le_refl _, .inl ⟨rfl, rfl, rfl⟩⟩
  · cases h1; exact ⟨hlc, .inr ⟨b, o, B, rfl, List.mem_cons_self, fun _ => by omega, fun i hi => hg i (by omega)⟩⟩
def Sent.add (fm : Mem) (S : Sent G) : Sent (fm ++ G) where
  eb := S.eb
  eo := S.eo
  ub := S.ub
  uo := S.uo
  E0 := S.E0
  E1 := S.E1
  U0 := S.U0
  U1 := S.U1
  e0 := List.mem_append.2 (.inr S.e0)
  e0n := S.e0n
  e0g := S.e0g
  e1 := List.mem_append.2 (.inr S.e1)
  e1f := S.e1f
  u0 := List.mem_append.2 (.inr S.u0)
  u0n := S.u0n
  u0g := S.u0g
  u1 := List.mem_append.2 (.inr S.u1)
  u1f := S.u1f
  ne := S.ne

def shr8 (n : Nat) : Nat → Nat
  | 0 => n
  | i + 1 => shr8 n i / 256
def lowF (n : Nat) : Nat → Nat := fun i => shr8 n i % 256
theorem lowF_0 (n : Nat) : lowF n 0 = n % 256 := rfl
theorem lowF_1 (n : Nat) : lowF n 1 = n / 256 % 256 := rfl
theorem lowF_2 (n : Nat) : lowF n 2 = n / 65536 % 256 := by show n / 256 / 256 % 256 = _; rw [Nat.div_div_eq_div_mul]
theorem lowF_3 (n : Nat) : lowF n 3 = n / 16777216 % 256 := by show n / 256 / 256 / 256 % 256 = _; rw [Nat.div_div_eq_div_mul, Nat.div_div_eq_div_mul]

structure LowS where
  i : Nat
  oa : Option Addr
  cp : Nat
  om : Mem
  j : Mem

theorem low_t (n k : Nat) (hk : k ≤ 2 ^ 20) : Trip Tryd.prog G 22 #[.int .u64 (n : Nat), .int .i64 (k : Nat)] [] (fun v m => ∃ oa cp, v = .slice oa k cp ∧ SlM 1 (.slice oa k cp) k (u8f (lowF n)) m) := by
  refine Trip_of Tryd.func22 rfl (by show 2 ≤ _; decide) (args := [.int .u64 (n : Nat), .int .i64 (k : Nat)]) fun c h0 hex => ?_
  refine go _ ?_
  refine J_loopL (σ := LowS) [] (fun t => [(0, .int .u64 ((shr8 n t.i : Nat) : Int)), (5, .slice t.oa t.i t.cp), (6, .int .i64 (k : Nat)), (7, .int .i64 (t.i : Nat))]) (fun t => t.om ++ t.j)
    (fun t => t.i ≤ k ∧ SlM 1 (.slice t.oa t.i t.cp) t.i (u8f (lowF n)) t.om) (fun t => k - t.i) ⟨0, none, 0, [], []⟩ (.refl _) ⟨Nat.zero_le _, .inl ⟨rfl, rfl, rfl⟩⟩ ?_
  rintro ⟨i, oa, cp, om, j⟩ f ⟨hi, hsl⟩
  dsimp only at hi hsl ⊢
  refine go _ ?_
  refine J_condP rfl (fun hlt => ?_) (fun hge => ?_)
  · refine go _ ?_
    refine ro_buildSlice1 (z := .int .u8 0) (vs := [.int .u8 ((shr8 n i % 256 : Nat) : Int)]) rfl rfl z5 rfl rfl rfl rfl hex fun sb hsb => ?_
    refine go _ ?_
    refine ro_appendMF (s := 0) (src := fun x => (listB [.int .u8 ((shr8 n i % 256 : Nat) : Int)] 5).g (0 + x)) (k := 1) (len := i) (v := .slice oa i cp) (cl := u8f (lowF n)) (sm := om) (fm := (sb, listB [.int .u8 ((shr8 n i % 256 : Nat) : Int)] 5) :: j) rfl rfl rfl rfl z5 (by decide) rfl rfl hsl
      (pA [(sb, listB [.int .u8 ((shr8 n i % 256 : Nat) : Int)] 5)] om j) (Src.of (B := listB [.int .u8 ((shr8 n i % 256 : Nat) : Int)] 5) (by simp) (by show 0 + 1 * (0 + 1) ≤ 1; decide)) (fun x hx => by rw [show x = 0 from by have h : x < 1 := hx; omega]; rfl) (by omega) hex rfl ?_
    intro v' sm' hv' hone'
    obtain ⟨oa', cp', rfl⟩ := slmForm hv'
    refine go _ ?_
    refine ⟨⟨i + 1, oa', cp', sm', (sb, _) :: j⟩, by dsimp only; omega, ⟨by dsimp only; omega, slmCongr hv' fun x hx => ?_⟩, ⟨rfl, rfl, rfl, rfl, trivial⟩, .of_perm List.perm_append_comm⟩
    have hx : x < (i + 1) * (0 + 1) := hx
    by_cases hx2 : x < i
    · rw [if_pos (by omega)]
    · obtain rfl : x = i := by omega
      rw [if_neg (by omega), show x - x * (0 + 1) = 0 by omega]; rfl
  · obtain rfl : i = k := by omega
    refine go _ ?_
    refine J_ret ?_
    exact ends_retS [4] (post := om) (junk := j) ⟨oa, cp, rfl, hsl⟩ rfl (.refl _)

theorem pC1 (x : Nat × Blk) (m : Mem) : (x :: m).Perm (m ++ [x]) := List.perm_append_comm (l₁ := [x]) (l₂ := m)
theorem pN (a b s : Mem) : (a ++ (b ++ s)).Perm (s ++ (a ++ b)) := by rw [← List.append_assoc]; exact List.perm_append_comm
theorem or_81 (L : Nat) : L * 2 ^ 3 ||| 1 = 8 * L + 1 := by
  have := Nat.shiftLeft_add_eq_or_of_lt (show 1 < 2 ^ 3 by decide) L
  rw [Nat.shiftLeft_eq] at this
  omega
theorem srcAdd {M : Mem} {k : Nat} {v : Value} {src : Nat → Value} (h : Src G 1 v k src) : Src (M ++ G) 1 v k src :=
  h.imp (fun ⟨b, o, cp, B, h1, h2, h3, h4⟩ => ⟨b, o, cp, B, h1, List.mem_append.2 (.inr h2), h3, h4⟩) id
theorem list_lt {l : List Nat} (h : ∀ v ∈ l, v < 256) (i : Nat) : l.getD i 0 < 256 := by
  rw [List.getD_eq_getElem?_getD]
  cases hi : l[i]? with
  | none => show 0 < 256; omega
  | some v => exact h v (List.mem_of_getElem? hi)
theorem sizedF_lt {n L : Nat} {tx : Nat → Nat} (h : ∀ i, tx i < 256) (i : Nat) : sizedF n L tx i < 256 := by
  unfold sizedF
  split
  · refine list_lt ?_ i
    intro v hv
    simp only [List.mem_cons, List.not_mem_nil, or_false] at hv
    omega
  · exact h _
/-- What an append makes of two pieces. -/
def app1 (len : Nat) (a b : Nat → Nat) : Nat → Nat := fun i => if i < len then a i else b (i - len)
theorem app_cl {len k : Nat} {a b : Nat → Nat} {src : Nat → Value} (hs : ∀ i, i < k → src i = u8f b i) : ∀ i, i < (len + k) * (0 + 1) → (if i < len * (0 + 1) then u8f a i else src (i - len * (0 + 1))) = u8f (app1 len a b) i := by
  intro i hi
  unfold app1
  by_cases h : i < len
  · rw [if_pos (by omega)]; show _ = Value.int .u8 ((if i < len then a i else b (i - len) : Nat) : Int); rw [if_pos h]; rfl
  · rw [if_neg (by omega), show i - len * (0 + 1) = i - len by omega, hs _ (by omega)]
    show _ = Value.int .u8 ((if i < len then a i else b (i - len) : Nat) : Int); rw [if_neg h]; rfl

theorem app1_lt {len : Nat} {a b : Nat → Nat} {i : Nat} (h : i < len) : app1 len a b i = a i := if_pos h
theorem app1_ge {len : Nat} {a b : Nat → Nat} {i : Nat} (h : ¬ i < len) : app1 len a b i = b (i - len) := if_neg h
theorem sized_eq (n L : Nat) (tx : Nat → Nat) (i : Nat) : app1 (4 + 2 + 4 + 3) (app1 (4 + 2 + 4) (app1 (4 + 2) (app1 4 (lowF 4247762216) fun i => [128, 104].getD i 0) (lowF n)) (lowF (8 * L + 1))) tx i = sizedF n L tx i := by
  have l0 : lowF 4247762216 0 = 40 := (lowF_0 _).trans (by decide)
  have l1 : lowF 4247762216 1 = 181 := (lowF_1 _).trans (by decide)
  have l2 : lowF 4247762216 2 = 47 := (lowF_2 _).trans (by decide)
  have l3 : lowF 4247762216 3 = 253 := (lowF_3 _).trans (by decide)
  generalize lowF 4247762216 = lo at *
  unfold sizedF
  by_cases h13 : i < 13
  · rw [if_pos h13, app1_lt (show i < 4 + 2 + 4 + 3 by omega)]
    by_cases h10 : i < 10
    · rw [app1_lt (show i < 4 + 2 + 4 by omega)]
      by_cases h6 : i < 6
      · rw [app1_lt (show i < 4 + 2 by omega)]
        by_cases h4 : i < 4
        · rw [app1_lt h4]
          obtain rfl | rfl | rfl | rfl : i = 0 ∨ i = 1 ∨ i = 2 ∨ i = 3 := by omega
          · exact l0
          · exact l1
          · exact l2
          · exact l3
        · rw [app1_ge h4]
          obtain rfl | rfl : i = 4 ∨ i = 5 := by omega
          · rfl
          · rfl
      · rw [app1_ge (show ¬ i < 4 + 2 by omega)]
        obtain rfl | rfl | rfl | rfl : i = 6 ∨ i = 7 ∨ i = 8 ∨ i = 9 := by omega
        · exact lowF_0 n
        · exact lowF_1 n
        · exact lowF_2 n
        · exact lowF_3 n
    · rw [app1_ge (show ¬ i < 4 + 2 + 4 by omega)]
      generalize 8 * L + 1 = z
      obtain rfl | rfl | rfl : i = 10 ∨ i = 11 ∨ i = 12 := by omega
      · exact lowF_0 z
      · exact lowF_1 z
      · exact lowF_2 z
  · rw [app1_ge (show ¬ i < 4 + 2 + 4 + 3 by omega), if_neg h13]

end Go.Proofs.YtogmacnlpclgkaaDoor

/-! WALKS 30: the laws' helpers: same, below, wakes. -/
namespace Go.Proofs.YtogmacnlpclgkaaDoor
open Go Go.Eng
attribute [local irreducible] RO J Trip Quiet
set_option maxRecDepth 20000
variable {G : Mem}

theorem same_t (oa oa2 : Option Addr) (n n2 cp cp2 : Nat) (z z2 : Nat → Nat) (hv : View G oa n cp z) (hv2 : View G oa2 n2 cp2 z2) (hn : n = n2) (hz : ∀ i, i < n → z i = z2 i) :
    Trip Tryd.prog G 13 #[.slice oa n cp, .slice oa2 n2 cp2] [] (fun v m => m = [] ∧ v = .bool true) := by
  subst hn
  refine Trip_of Tryd.func13 rfl (by show 2 ≤ _; decide) (args := [.slice oa n cp, .slice oa2 n cp2]) fun c h0 hex => ?_
  refine go _ ?_
  refine ro_convBS (z := z) (hv.mono fun p hp => hp) rfl rfl rfl rfl (by decide) rfl ?_
  refine go _ ?_
  refine ro_convBS (z := z2) (hv2.mono fun p hp => hp) rfl rfl rfl rfl (by decide) rfl ?_
  refine go _ ?_
  refine ro_eqStr (r := true) rfl rfl rfl (by rw [strOf_congr hz]; exact beq_self_eq_true _) rfl ?_
  refine go _ ?_
  refine J_ret ?_
  exact ends_retS [4] ⟨rfl, rfl⟩

theorem below_t (x : Int) (n : Nat) (hn : 0 < n) (hn2 : n < 2 ^ 62) : Trip Tryd.prog G 10 #[.int .i64 x, .int .i64 (n : Nat)] [] (fun v m => m = [] ∧ ∃ y : Nat, y < n ∧ v = .int .i64 (y : Nat)) := by
  refine Trip_of Tryd.func10 rfl (by show 2 ≤ _; decide) (args := [.int .i64 x, .int .i64 (n : Nat)]) fun c h0 hex => ?_
  have h1 : x.tmod n < n := Int.tmod_lt_of_pos x (by omega)
  have h2 : -(n : Int) < x.tmod n := Int.lt_tmod_of_pos x (by omega)
  refine go _ ?_
  refine ro_rem rfl rfl (by omega) rfl ?_
  generalize x.tmod n = r at h1 h2
  refine go _ ?_
  refine J_joinE (σ := Nat) [] (fun y => [(0, .int .i64 (y : Nat))]) (fun _ => []) (fun y => y < n) ?_ ?_
  · refine J_condP rfl (fun hneg => ?_) (fun hpos => ?_)
    · refine go _ ?_
      exact ⟨(r + n).toNat, by omega, ⟨by show Value.int _ _ = Value.int _ _; congr 1; omega, trivial⟩, .refl _⟩
    · refine go _ ?_
      exact ⟨r.toNat, by omega, ⟨by show Value.int _ _ = Value.int _ _; congr 1; omega, trivial⟩, .refl _⟩
  intro y f hy
  refine go _ ?_
  refine J_ret ?_
  exact ends_retS [4] ⟨rfl, y, hy, rfl⟩

theorem wakes_t (S : Sent G) (fb : Blk) (hfb : (2, fb) ∈ G) (hfn : 0 < fb.n) (hfv : fb.g 0 = .bool false) : Trip Tryd.prog G 9 #[] [] (fun v _ => v = .bool true) := by
  refine Trip_of Tryd.func9 rfl (by show 0 ≤ _; decide) (args := []) fun c h0 hex => ?_
  refine go _ ?_
  refine ro_buildSlice1 (z := .int .u8 0) (vs := [.int .u8 40, .int .u8 181, .int .u8 47, .int .u8 253, .int .u8 32, .int .u8 2, .int .u8 17, .int .u8 0, .int .u8 0, .int .u8 104, .int .u8 105]) rfl rfl z5 rfl rfl rfl rfl hex fun b hb => ?_
  refine go _ ?_
  have hv : View ([(b, listB [.int .u8 40, .int .u8 181, .int .u8 47, .int .u8 253, .int .u8 32, .int .u8 2, .int .u8 17, .int .u8 0, .int .u8 0, .int .u8 104, .int .u8 105] 5)] ++ G) (some ⟨b, 0, none⟩) 11 11 wakeF :=
    ⟨Nat.le_refl _, .inr ⟨b, 0, _, rfl, by simp; exact .inl rfl, fun _ => by show 0 + 11 ≤ 11; omega, fun i hi => by
      rw [Nat.zero_add]
      match i, hi with
      | 0, _ => rfl
      | 1, _ => rfl
      | 2, _ => rfl
      | 3, _ => rfl
      | 4, _ => rfl
      | 5, _ => rfl
      | 6, _ => rfl
      | 7, _ => rfl
      | 8, _ => rfl
      | 9, _ => rfl
      | 10, _ => rfl⟩⟩
  refine ro_callT (Trip.freeze (rawRead_t (S.add _) (fun i => list_lt (by decide) i) _ _ hv fb (List.mem_append.2 (.inr hfb)) hfn hfv (wake_fr fun _ _ => rfl) (by omega))) ?_ (fm := []) (hs := .refl _)
  rintro v m' ⟨om, ⟨out, l, D, rfl, hsl, hg⟩, rfl⟩
  obtain ⟨rfl, hD⟩ := hg ⟨rfl, fun h => absurd h (by decide)⟩
  obtain ⟨oa, cp, rfl⟩ := slmForm hsl
  have hvo := slmView hsl
  rw [show decide (2 = 2 ∧ (false = true → 0 = xdig (fun i => [104, 105].getD i 0) 2 % 4294967296)) = true by simp]
  refine go _ ?_
  refine ro_convBS (z := D) (hvo.mono fun p hp => by simp [hp]) rfl rfl rfl rfl (by decide) rfl ?_
  refine go _ ?_
  refine ro_eqStr (r := true) rfl rfl rfl ?_ rfl ?_
  · rw [strOf_congr hD]; exact beq_self_eq_true _
  refine go _ ?_
  refine J_ret ?_
  exact ends_retS [0] (post := []) (junk := (om ++ [(b, _)]) ++ []) rfl rfl (.refl _)
end Go.Proofs.YtogmacnlpclgkaaDoor
