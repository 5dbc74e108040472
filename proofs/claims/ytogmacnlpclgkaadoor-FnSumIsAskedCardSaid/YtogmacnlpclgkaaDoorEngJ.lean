/-
  AN ENGINE OF WALKS, MORE RULES: bytes as a string; strings compared; a memory that a call leaves alone.
-/
import Derived.Test.YtogmacnlpclgkaaDoorEngI
import Derived.Laws.BytesString
namespace Go.Eng
open Go

/-- Bytes as a string. -/
def strOf (z : Nat → Nat) (n : Nat) : ByteArray := ⟨((List.range n).map fun i => UInt8.ofNat (z i)).toArray⟩
theorem strOf_congr {z z' : Nat → Nat} {n : Nat} (h : ∀ i, i < n → z i = z' i) : strOf z n = strOf z' n := by
  unfold strOf
  congr 2
  apply List.map_congr_left
  intro i hi
  rw [h i (List.mem_range.1 hi)]
theorem foldl_str (z : Nat → Nat) : ∀ (l : List Nat) (a : Array UInt8), (l.map fun i => ((z i : Nat) : Int)).foldl (fun r n => ByteArray.push r (UInt8.ofNat n.toNat)) ⟨a⟩ = ⟨a ++ (l.map fun i => UInt8.ofNat (z i)).toArray⟩
  | [], a => by simp
  | i :: l, a => by
    simp only [List.map_cons, List.foldl_cons, Int.toNat_natCast]
    rw [show ByteArray.push ⟨a⟩ (UInt8.ofNat (z i)) = ⟨a.push (UInt8.ofNat (z i))⟩ from rfl, foldl_str z l]
    congr 1
    apply Array.toList_inj.1
    simp

section
variable {P : Program} [ty : TyC P] {G : Mem} {qs : List FuncId} {c : World} {n : Nat} {h0 : Base} {ops : Array Oper} {Q : Fr → Mem → Prop} {rest : List Oper} {f : Fr} {m : Mem}
variable {d : Option Tmp} {T T' tt : TypeId} {pos : String} {aft : Array Edge}

omit ty in
theorem run_strOf {M : Mem} {oa : Option Addr} {len cap : Nat} {z : Nat → Nat} (hv : View M oa len cap z) {w : World} (hM : ∀ p ∈ M, w.heap[p.1]? = some p.2.obj) : (Conv.bytesToString (.slice oa len cap)).run P w = .ok (.string (strOf z len)) w := by
  rcases hv.is with ⟨rfl, rfl, rfl⟩ | ⟨b, o, B, rfl, hm, hf, hg⟩
  · unfold Conv.bytesToString
    rw [Sem.run_pure]
    rfl
  · have hb := hM _ hm
    rw [run_bytesToString w ⟨b, o, none⟩ len cap ((List.range len).map fun i => ((z i : Nat) : Int))]
    · have e := foldl_str z (List.range len) #[]
      rw [show (⟨#[]⟩ : ByteArray) = ByteArray.empty from rfl] at e
      rw [e]
      congr 2
      unfold strOf
      simp
    · rw [run_loadCells w ⟨b, o, none⟩ len (fun i => .int .u8 (z i)) (fun j hj => by rw [Addr_add, ← hg j hj]; exact cell_of hb (by have := hf (by omega); show o + j < B.n; omega))]
      congr 1
      apply Array.toList_inj.1
      simp [Function.comp_def]

theorem ro_convBS {x : Operand} {oa : Option Addr} {len cap e : Nat} {z : Nat → Nat} (hv : View (m ++ G) oa len cap z) (hx : ev f x = .slice oa len cap) (hT : TyC.tk P T = .sl e) (he : TyC.tk P e = .int .u8) (hT' : TyC.tk P T' = .string)
    (hq : qs.contains (1000000 + 1000 * T + T') = true) (hd : dstOk n d = true) (h : RO P G qs c n h0 ops Q rest (updo f d (.string (strOf z len))) m) : RO P G qs c n h0 ops Q (⟨d, .convert T T' x, tt, pos, aft, none⟩ :: rest) f m := by
  refine ro_read cls_conv rfl hd (fun _ hp w hw hc => ⟨w, hc, .inl ?_⟩) (fun h0 => ?_) h
  · have e1 := run_convert_bytes_string (P := P) w T T' e oa len cap (u_sl hT) (u_int he) (u_string hT')
    rw [run_strOf hv (fun p hp' => by rw [hc.1]; exact hw.has p hp')] at e1
    simp [execOp, hx, e1]
  · exfalso
    have h1 : (if qs.contains (1000000 + 1000 * T + T') = true then 1 else 0) = 0 := h0
    rw [if_pos hq] at h1
    cases h1

omit ty in
theorem ro_eqStr {x y : Operand} {a b : ByteArray} {r : Bool} (hx : ev f x = .string a) (hy : ev f y = .string b) (hT : P.underlying T = some .string) (hr : (a.toList == b.toList) = r) (hd : dstOk n d = true)
    (h : RO P G qs c n h0 ops Q rest (updo f d (.bool r)) m) : RO P G qs c n h0 ops Q (⟨d, .binOp .eql T x y T', tt, pos, aft, none⟩ :: rest) f m := by
  refine ro_read (Nat.le_refl _) rfl hd (fun _ hp w hw hc => ⟨w, hc, .inl ?_⟩) (fun h => by cases h) h
  have _ := hT
  simp [execOp, hx, hy, eqGuard, binOp, Op.stringOp, hr]

omit ty in
theorem ro_neBool {x y : Operand} {a b r : Bool} (hx : ev f x = .bool a) (hy : ev f y = .bool b) (hT : P.underlying T = some .bool) (hr : (!(a == b)) = r) (hd : dstOk n d = true)
    (h : RO P G qs c n h0 ops Q rest (updo f d (.bool r)) m) : RO P G qs c n h0 ops Q (⟨d, .binOp .neq T x y T', tt, pos, aft, none⟩ :: rest) f m := by
  refine ro_read (Nat.le_refl _) rfl hd (fun _ hp w hw hc => ⟨w, hc, .inl ?_⟩) (fun h => by cases h) h
  have : (Op.equal T (.bool a) (.bool b)).run P w = .ok (a == b) w := run_equal_of fun k => by simp [Op.equalIn, run_underlying hT]
  simp [execOp, hx, hy, eqGuard, binOp, this, ← hr]

/-- The value of an array literal of one-cell elements. -/
theorem ro_buildArr {l : List (Nat × Operand)} {zs vs : List Value} {len e : Nat} (hk : TyC.tk P T = .arr len e) (hs : TyC.sz P e = 1) (hz : zeroL P T = some zs)
    (hall : (evParts f l).all (fun p => Nat.blt p.1 len && one1 p.2) = true) (hlen : zs.length = len) (hvs : setAll zs (evParts f l) = vs) (hd : dstOk n d = true)
    (h : RO P G qs c n h0 ops Q rest (updo f d (.agg vs.toArray)) m) : RO P G qs c n h0 ops Q (⟨d, .build T l.toArray, tt, pos, aft, none⟩ :: rest) f m := by
  refine ro_build (fun w => ?_) hd h
  unfold zeroL at hz
  simp only [Option.bind_eq_some_iff, Option.map_eq_some_iff] at hz
  obtain ⟨i, hi, z, hz, rfl⟩ := hz
  have hfill := fill_flat (fun i => some (i * 1, 1)) len (fun i hi => by simp) (evParts f l) z.cells.toList hlen (fun p hp => by
    have := List.all_eq_true.1 hall p hp
    simp only [Bool.and_eq_true] at this
    exact ⟨by simpa [Nat.blt_eq] using this.1, this.2⟩)
  rw [hvs] at hfill
  rw [evParts_eq]
  simp only [Instr.build, Sem.run_bind, zeroValue, typeInfo, run_program, Result.andThen_ok, hi, Sem.run_pure, hz, run_underlying (u_arr hk), run_sizeOf hs (by omega)]
  simp only [Array.toArray_toList] at hfill
  rw [hfill]
  rfl

/-- An element of an array's value. -/
theorem ro_indexP {x y : Operand} {vs : List Value} {k : IntKind} {I : Int} {i len e : Nat} {v : Value} (hx : ev f x = .agg vs.toArray) (hy : ev f y = .int k I) (hI : I = (i : Int)) (hT : TyC.tk P T = .arr len e) (hs : TyC.sz P e = 1) (h1 : oneTk (TyC.tk P e) = true)
    (hi : i < len) (hv : vs[i]? = some v) (hd : dstOk n d = true) (h : RO P G qs c n h0 ops Q rest (updo f d v) m) : RO P G qs c n h0 ops Q (⟨d, .index T x y, tt, pos, aft, none⟩ :: rest) f m := by
  subst hI
  refine ro_pure rfl rfl hd (fun w => ?_) h
  simp [execOp, hx, hy, Instr.index, asIntOf, run_underlying (u_arr hT), hi, run_sizeOf hs (by omega), part, run_isAgg_one h1, hv]

omit ty in
/-- A call, with blocks beside that it leaves alone. -/
theorem Trip.freeze {fm pre : Mem} {fn : FuncId} {args : Array Value} {R : Value → Mem → Prop} (t : Trip P (fm ++ G) fn args pre R) : Trip P G fn args (pre ++ fm) (fun v m' => ∃ m0, R v m0 ∧ m' = m0 ++ fm) := by
  intro c h w hc o
  have hk : (pre ++ fm).keys = pre.keys ++ fm.keys := by unfold Mem.keys; rw [List.map_append]
  have o1 : Own ⟨h, pre.keys, false⟩ (fm ++ G) pre h :=
    { size := o.size, has := fun p hp => o.has p (by rw [List.append_assoc]; exact hp), nodup := by have := o.nodup; rwa [List.append_assoc] at this,
      known := fun p hp => .inl (List.mem_map_of_mem hp), old := fun _ _ _ => rfl, ex := fun h => by cases h }
  refine (t c h w hc o1).mono ?_
  rintro e w' ⟨v, m0, h', rfl, hc', o', hR⟩
  refine ⟨v, m0 ++ fm, h', rfl, hc', ?_, m0, hR, rfl⟩
  exact { size := o'.size, has := fun p hp => o'.has p (by rw [List.append_assoc] at hp; exact hp), nodup := by have := o'.nodup; rwa [← List.append_assoc] at this,
          known := fun p hp => by
            rcases List.mem_append.1 hp with h1 | h1
            · rcases o'.known p h1 with h2 | h2
              · left; show p.1 ∈ (pre ++ fm).keys; rw [hk]; exact List.mem_append.2 (.inl h2)
              · exact .inr h2
            · left; show p.1 ∈ (pre ++ fm).keys; rw [hk]; exact List.mem_append.2 (.inr (List.mem_map_of_mem h1)),
          old := fun b hb hn => o'.old b hb fun h2 => hn (by show b ∈ (pre ++ fm).keys; rw [hk]; exact List.mem_append.2 (.inl h2)),
          ex := fun h => by cases h }
end
end Go.Eng
