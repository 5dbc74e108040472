/-
  WALKS 31: FnSizeIsAsked.
-/
import Derived.Test.YtogmacnlpclgkaaDoorW30
namespace Go.Proofs.YtogmacnlpclgkaaDoor
open Go Go.Eng
attribute [local irreducible] RO J Trip Quiet
set_option maxRecDepth 20000
variable {G : Mem}

def three (a b c : Nat) : Nat → Nat := fun i => [a, b, c].getD i 0
theorem three_g (a b c i : Nat) (hi : i < 3) (T : TypeId) (B : Blk) (hB : B = listB [.int .i64 (a : Nat), .int .i64 (b : Nat), .int .i64 (c : Nat)] T) : B.g (0 + ((i : Nat) : Int).toNat) = .int .i64 ((three a b c i : Nat) : Int) := by
  subst hB
  rw [Nat.zero_add, Int.toNat_natCast]
  match i, hi with
  | 0, _ => rfl
  | 1, _ => rfl
  | 2, _ => rfl

set_option maxHeartbeats 1000000 in
theorem fnSize_t (S : Sent G) (oa : Option Addr) (L cp : Nat) (tx : Nat → Nat) (hx : ∀ i, tx i < 256) (hv : View G oa L cp tx) (x : Int) (fb : Blk) (hfb : (2, fb) ∈ G) (hfn : 0 < fb.n) (hfv : fb.g 0 = .bool false) :
    Trip Tryd.prog G 4 #[.slice oa L cp, .int .i64 x] [] (fun v _ => v = .bool true) := by
  refine Trip_of Tryd.func4 rfl (by show 2 ≤ _; decide) (args := [.slice oa L cp, .int .i64 x]) fun c h0 hex => ?_
  refine go _ ?_
  refine J_condP rfl (fun h1 => ?_) (fun h1 => ?_)
  · refine go _ ?_
    refine J_ret ?_
    exact ends_retS [4] rfl
  refine go _ ?_
  refine J_condP rfl (fun h2 => ?_) (fun h2 => ?_)
  · refine go _ ?_
    refine ro_callT (wakes_t S fb hfb hfn hfv) ?_
    rintro v m rfl
    refine go _ ?_
    refine J_ret ?_
    exact ends_retS [4] (post := []) (junk := m ++ []) rfl rfl (.refl _)
  have hL : L ≤ 131072 := by omega
  refine go _ ?_
  refine ro_callT (below_t x (2 * L + 300) (by omega) (by omega)) ?_
  rintro v m ⟨rfl, y, hy, rfl⟩
  refine go _ ?_
  refine ro_buildSlice1 (z := .int .i64 0) (vs := [.int .i64 (y : Nat), .int .i64 (L : Nat), .int .i64 ((L + 1 : Nat) : Int)]) rfl rfl z3 rfl rfl rfl rfl hex fun b1 hb1 => ?_
  refine go _ ?_
  refine J_loopL (σ := Nat × Mem) [] (fun t => [(0, .slice oa L cp), (29, .slice (some ⟨b1, 0, none⟩) 3 3), (30, .int .i64 3), (31, .int .i64 (t.1 : Nat))]) (fun t => (b1, listB [.int .i64 (y : Nat), .int .i64 (L : Nat), .int .i64 ((L + 1 : Nat) : Int)] 3) :: t.2)
    (fun t => t.1 ≤ 3) (fun t => 3 - t.1) (0, []) (.refl _) (Nat.zero_le _) ?_
  rintro ⟨i, j⟩ f hi
  dsimp only at hi ⊢
  refine go _ ?_
  refine J_condP rfl (fun hlt => ?_) (fun hge => ?_)
  · have hi3 : i < 3 := by omega
    refine go _ ?_
    refine ro_loadI (v := .int .i64 ((three y L (L + 1) i : Nat) : Int)) rfl rfl .here (by show _ < 3; omega) (three_g y L (L + 1) i hi3 _ _ rfl) rfl ?_
    have hn : three y L (L + 1) i < 2 ^ 20 := by
      match i, hi3 with
      | 0, _ => show y < _; omega
      | 1, _ => show L < _; omega
      | 2, _ => show L + 1 < _; omega
    generalize three y L (L + 1) i = n at hn ⊢
    refine go _ ?_
    refine ro_callT (sized_t oa L cp tx hv (by omega) n (by omega)) ?_
    rintro v om ⟨a1, c1, rfl, h3⟩
    refine go _ ?_
    have hvd := slmView h3
    refine ro_callT (Trip.freeze (fm := om) (rawRead_t (S.add om) (fun i => sizedF_lt hx i) _ _ (hvd.mono fun p hp => List.mem_append.2 (.inl hp)) fb (List.mem_append.2 (.inr hfb)) hfn hfv (sized_fr (n := n) (fun _ _ => rfl) hL (by omega)) (by omega))) ?_
    rintro v m' ⟨om2, ⟨out, l, D, rfl, hsl, hg⟩, rfl⟩
    obtain ⟨a2, c2, rfl⟩ := slmForm hsl
    have hvo := slmView hsl
    rw [show decide (n = L ∧ (false = true → 0 = xdig tx L % 4294967296)) = decide (n = L) by rw [decide_eq_decide]; simp]
    by_cases hnl : n = L
    · obtain ⟨rfl, hD⟩ := hg ⟨hnl, fun h => absurd h (by decide)⟩
      rw [decide_eq_true hnl]
      refine go _ ?_
      refine ro_neBool (r := false) rfl rfl rfl (by rw [decide_eq_true (by omega)]; rfl) rfl ?_
      refine go _ ?_
      refine ro_callT (Trip.freeze (fm := om2) (same_t a2 oa l l c2 cp D tx (hvo.mono fun p hp => List.mem_append.2 (.inl hp)) (hv.mono fun p hp => List.mem_append.2 (.inr hp)) rfl hD)) ?_ (fm := om ++ ((b1, listB [.int .i64 (y : Nat), .int .i64 (l : Nat), .int .i64 ((l + 1 : Nat) : Int)] 3) :: j)) (hs := by rw [List.append_assoc]; exact .refl _)
      rintro v m ⟨m0, ⟨hm0, rfl⟩, hm⟩
      rw [hm, hm0, List.nil_append]
      refine go _ ?_
      exact ⟨(i + 1, om2 ++ om ++ j), by dsimp only; omega, by dsimp only; omega, ⟨rfl, rfl, rfl, rfl, trivial⟩, by rw [← List.append_assoc]; exact .of_perm List.perm_middle⟩
    · rw [decide_eq_false hnl]
      refine go _ ?_
      refine ro_neBool (r := false) rfl rfl rfl (by rw [decide_eq_false (by omega)]; rfl) rfl ?_
      refine go _ ?_
      exact ⟨(i + 1, om2 ++ om ++ j), by dsimp only; omega, by dsimp only; omega, ⟨rfl, rfl, rfl, rfl, trivial⟩, .of_perm List.perm_middle⟩
  · refine go _ ?_
    refine ro_callT (wakes_t S fb hfb hfn hfv) ?_
    rintro v m rfl
    refine go _ ?_
    refine J_ret ?_
    exact ends_retS [4] (post := []) (junk := m ++ ((b1, _) :: j)) rfl rfl (.refl _)
end Go.Proofs.YtogmacnlpclgkaaDoor
