/-
  TEXTS MERGED: Eng9, W1, J1.
-/
import Derived.Test.YtogmacnlpclgkaaDoorK09
import Derived.Test.YtogmacnlpclgkaaDoorK10
import Derived.Test.YtogmacnlpclgkaaDoorRows
import Derived.ChangeSame
import Derived.ChangeVars
import Derived.JoinedOf
import Derived.RowKit
import Derived.RowKitTokens
import Derived.LaidLaws
import Derived.Carry
import Derived.OpenShut
/-! AN ENGINE OF WALKS, PART 9: THE WALK BY ITSELF, AS FAR AS IT GOES WITHOUT A CHOICE (the default proof of the last argument of 'run' and 'runO'). -/
namespace Go.Eng
open Go Go.Proofs.YtogmacnlpclgkaaDoor

structure Keep (p : Prop) : Prop where
  out : p
theorem blt_of {a b : Nat} (h : a < b) : Nat.blt a b = true := by simpa [Nat.blt_eq] using h

/-- From inside a region: what is left of it behind the steps that need no choice. -/
theorem runO (A : Prop) {B : Prop} (k : B) (h : Keep B → A := by
    intro hk
    repeat (refine ro_batch (by conv => lhs; whnf) ?_; first
      | (apply ro_nil)
      | (apply ro_load; exact rfl; exact rfl; (first | exact .here | exact .there (.here) | exact .there (.there (.here)) | exact .there (.there (.there (.here))) | exact .there (.there (.there (.there (.here)))) | exact .there (.there (.there (.there (.there (.here))))) | exact .there (.there (.there (.there (.there (.there (.here)))))) | exact .there (.there (.there (.there (.there (.there (.there (.here)))))))); (first | exact rfl | exact blt_of (by assumption) | exact blt_of (by omega)); (first | with_reducible assumption | conv => lhs; whnf); exact rfl)
      | (apply ro_store; exact rfl; (first | with_reducible assumption | conv => lhs; whnf); exact rfl; exact rfl; (first | exact .here | exact .there (.here) | exact .there (.there (.here)) | exact .there (.there (.there (.here))) | exact .there (.there (.there (.there (.here)))) | exact .there (.there (.there (.there (.there (.here))))) | exact .there (.there (.there (.there (.there (.there (.here)))))) | exact .there (.there (.there (.there (.there (.there (.there (.here)))))))); (first | exact rfl | exact blt_of (by assumption) | exact blt_of (by omega)); (first | exact rfl | assumption); assumption)
      | (apply ro_add; exact rfl; exact rfl; (first | exact IntWalk.i64_in _ (by omega) | exact IntWalk.u32_in _ (by omega) | exact IntWalk.u64_in _ (by omega) | exact IntWalk.u8_in _ (by omega) | exact IntWalk.u16_in _ (by omega)); exact rfl)
      | (apply ro_sub; exact rfl; exact rfl; (first | exact IntWalk.i64_in _ (by omega) | exact IntWalk.u32_in _ (by omega) | exact IntWalk.u64_in _ (by omega) | exact IntWalk.u8_in _ (by omega) | exact IntWalk.u16_in _ (by omega)); exact rfl)
      | (apply ro_conv; exact rfl; exact rfl; exact rfl; (first | exact IntWalk.i64_in _ (by omega) | exact IntWalk.u32_in _ (by omega) | exact IntWalk.u64_in _ (by omega) | exact IntWalk.u8_in _ (by omega) | exact IntWalk.u16_in _ (by omega)); exact rfl)
      | (apply ro_pick (b := true); exact rfl; (first | with_reducible assumption | conv => lhs; whnf); exact rfl)
      | (apply ro_pick (b := false); exact rfl; (first | with_reducible assumption | conv => lhs; whnf); exact rfl)
      | (apply ro_wantG; exact rfl)
      | (apply ro_unwantG; exact rfl; exact rfl)
      | (apply ro_eqIntT; exact rfl; exact rfl; (first | with_reducible rfl | decide); exact rfl)
      | (apply ro_eqIntF; exact rfl; exact rfl; decide; exact rfl)
      | (apply ro_eqBoolT; exact rfl; exact rfl; exact rfl; (first | with_reducible rfl | decide); exact rfl)
      | (apply ro_eqInt; exact rfl; exact rfl; exact rfl)
      | (apply ro_neInt; exact rfl; exact rfl; exact rfl)
      | (apply ro_eqNil; exact rfl; exact rfl; exact rfl; exact rfl)
      | (apply ro_neNil0; exact rfl; exact rfl; exact rfl; exact rfl)
      | (apply ro_neNil1; exact rfl; exact rfl; exact rfl; exact rfl)
      | (apply ro_shlL; exact rfl; exact rfl; decide; decide; (conv => lhs; simp); (first | exact IntWalk.i64_in _ (by omega) | exact IntWalk.u32_in _ (by omega) | exact IntWalk.u64_in _ (by omega) | exact IntWalk.u8_in _ (by omega) | exact IntWalk.u16_in _ (by omega)); exact rfl)
      | (apply ro_shrL; exact rfl; exact rfl; decide; decide; (conv => lhs; simp); exact rfl)
      | (apply ro_mul; exact rfl; exact rfl; (first | exact IntWalk.i64_in _ (by omega) | exact IntWalk.u32_in _ (by omega) | exact IntWalk.u64_in _ (by omega) | exact IntWalk.u8_in _ (by omega) | exact IntWalk.u16_in _ (by omega)); exact rfl)
      | (apply ro_notT; exact rfl; exact rfl)
      | (apply ro_notF; exact rfl; exact rfl)
      | (apply ro_notP; exact rfl; exact rfl)
      | (apply ro_move; (first | with_reducible assumption | conv => lhs; whnf); exact rfl)
      | (apply ro_assign; (first | with_reducible assumption | conv => lhs; whnf); exact rfl)
      | (apply ro_makeInterface; (first | with_reducible assumption | conv => lhs; whnf); exact rfl; exact rfl)
      | (apply ro_makeMethod; (first | with_reducible assumption | conv => lhs; whnf); exact rfl)
      | (apply ro_extract; exact rfl; exact rfl; exact rfl)
      | (apply ro_loadG; exact rfl; exact rfl; (first | exact .here | exact .there (.here) | exact .there (.there (.here)) | exact .there (.there (.there (.here))) | exact .there (.there (.there (.there (.here)))) | exact .there (.there (.there (.there (.there (.here))))) | exact .there (.there (.there (.there (.there (.there (.here)))))) | exact .there (.there (.there (.there (.there (.there (.there (.here)))))))); (first | exact rfl | exact blt_of (by assumption) | exact blt_of (by omega)); (first | with_reducible assumption | conv => lhs; whnf); exact rfl)
      | (apply ro_indexSl1; exact rfl; exact rfl; exact rfl; exact rfl; omega; omega; exact rfl)
      | (apply ro_indexArr1; exact rfl; exact rfl; exact rfl; exact rfl; omega; omega; exact rfl))
    try refine ro_batch (by conv => lhs; whnf) ?_
    exact Keep.out hk) : A := h ⟨k⟩

/-- From code on: what is left behind the steps that need no choice. -/
theorem run (A : Prop) {B : Prop} (k : B) (h : Keep B → A := by
    intro hk
    repeat (first
      | refine J_seq ?_
      | (refine J_region (qs := qsT) mixed_ok (by kernel_rfl) ?_
         repeat (refine ro_batch (by conv => lhs; whnf) ?_; first
           | (apply ro_nil)
           | (apply ro_load; exact rfl; exact rfl; (first | exact .here | exact .there (.here) | exact .there (.there (.here)) | exact .there (.there (.there (.here))) | exact .there (.there (.there (.there (.here)))) | exact .there (.there (.there (.there (.there (.here))))) | exact .there (.there (.there (.there (.there (.there (.here)))))) | exact .there (.there (.there (.there (.there (.there (.there (.here)))))))); (first | exact rfl | exact blt_of (by assumption) | exact blt_of (by omega)); (first | with_reducible assumption | conv => lhs; whnf); exact rfl)
           | (apply ro_store; exact rfl; (first | with_reducible assumption | conv => lhs; whnf); exact rfl; exact rfl; (first | exact .here | exact .there (.here) | exact .there (.there (.here)) | exact .there (.there (.there (.here))) | exact .there (.there (.there (.there (.here)))) | exact .there (.there (.there (.there (.there (.here))))) | exact .there (.there (.there (.there (.there (.there (.here)))))) | exact .there (.there (.there (.there (.there (.there (.there (.here)))))))); (first | exact rfl | exact blt_of (by assumption) | exact blt_of (by omega)); (first | exact rfl | assumption); assumption)
           | (apply ro_add; exact rfl; exact rfl; (first | exact IntWalk.i64_in _ (by omega) | exact IntWalk.u32_in _ (by omega) | exact IntWalk.u64_in _ (by omega) | exact IntWalk.u8_in _ (by omega) | exact IntWalk.u16_in _ (by omega)); exact rfl)
           | (apply ro_sub; exact rfl; exact rfl; (first | exact IntWalk.i64_in _ (by omega) | exact IntWalk.u32_in _ (by omega) | exact IntWalk.u64_in _ (by omega) | exact IntWalk.u8_in _ (by omega) | exact IntWalk.u16_in _ (by omega)); exact rfl)
           | (apply ro_conv; exact rfl; exact rfl; exact rfl; (first | exact IntWalk.i64_in _ (by omega) | exact IntWalk.u32_in _ (by omega) | exact IntWalk.u64_in _ (by omega) | exact IntWalk.u8_in _ (by omega) | exact IntWalk.u16_in _ (by omega)); exact rfl)
           | (apply ro_pick (b := true); exact rfl; (first | with_reducible assumption | conv => lhs; whnf); exact rfl)
           | (apply ro_pick (b := false); exact rfl; (first | with_reducible assumption | conv => lhs; whnf); exact rfl)
           | (apply ro_wantG; exact rfl)
           | (apply ro_unwantG; exact rfl; exact rfl)
           | (apply ro_eqIntT; exact rfl; exact rfl; (first | with_reducible rfl | decide); exact rfl)
           | (apply ro_eqIntF; exact rfl; exact rfl; decide; exact rfl)
           | (apply ro_eqBoolT; exact rfl; exact rfl; exact rfl; (first | with_reducible rfl | decide); exact rfl)
           | (apply ro_eqInt; exact rfl; exact rfl; exact rfl)
           | (apply ro_neInt; exact rfl; exact rfl; exact rfl)
           | (apply ro_eqNil; exact rfl; exact rfl; exact rfl; exact rfl)
           | (apply ro_neNil0; exact rfl; exact rfl; exact rfl; exact rfl)
           | (apply ro_neNil1; exact rfl; exact rfl; exact rfl; exact rfl)
           | (apply ro_shlL; exact rfl; exact rfl; decide; decide; (conv => lhs; simp); (first | exact IntWalk.i64_in _ (by omega) | exact IntWalk.u32_in _ (by omega) | exact IntWalk.u64_in _ (by omega) | exact IntWalk.u8_in _ (by omega) | exact IntWalk.u16_in _ (by omega)); exact rfl)
           | (apply ro_shrL; exact rfl; exact rfl; decide; decide; (conv => lhs; simp); exact rfl)
           | (apply ro_mul; exact rfl; exact rfl; (first | exact IntWalk.i64_in _ (by omega) | exact IntWalk.u32_in _ (by omega) | exact IntWalk.u64_in _ (by omega) | exact IntWalk.u8_in _ (by omega) | exact IntWalk.u16_in _ (by omega)); exact rfl)
           | (apply ro_notT; exact rfl; exact rfl)
           | (apply ro_notF; exact rfl; exact rfl)
           | (apply ro_notP; exact rfl; exact rfl)
           | (apply ro_move; (first | with_reducible assumption | conv => lhs; whnf); exact rfl)
           | (apply ro_assign; (first | with_reducible assumption | conv => lhs; whnf); exact rfl)
           | (apply ro_makeInterface; (first | with_reducible assumption | conv => lhs; whnf); exact rfl; exact rfl)
           | (apply ro_makeMethod; (first | with_reducible assumption | conv => lhs; whnf); exact rfl)
           | (apply ro_extract; exact rfl; exact rfl; exact rfl)
           | (apply ro_loadG; exact rfl; exact rfl; (first | exact .here | exact .there (.here) | exact .there (.there (.here)) | exact .there (.there (.there (.here))) | exact .there (.there (.there (.there (.here)))) | exact .there (.there (.there (.there (.there (.here))))) | exact .there (.there (.there (.there (.there (.there (.here)))))) | exact .there (.there (.there (.there (.there (.there (.there (.here)))))))); (first | exact rfl | exact blt_of (by assumption) | exact blt_of (by omega)); (first | with_reducible assumption | conv => lhs; whnf); exact rfl)
           | (apply ro_indexSl1; exact rfl; exact rfl; exact rfl; exact rfl; omega; omega; exact rfl)
           | (apply ro_indexArr1; exact rfl; exact rfl; exact rfl; exact rfl; omega; omega; exact rfl))
         try refine ro_batch (by conv => lhs; whnf) ?_)
      | refine J_block ?_
      | refine J_exit ?_
      | refine J_skip ?_
      | refine J_label ?_
      | refine J_condT' rfl (by with_reducible rfl) ?_
      | refine J_condF' rfl (by with_reducible rfl) ?_)
    exact Keep.out hk) : A := h ⟨k⟩

/-- From code or from inside a region: what is left behind the steps that need no choice, in natural numbers where that can be. -/
theorem go (A : Prop) {B : Prop} (k : B) (h : Keep B → A := by
    intro hk
    repeat ((try refine ro_batch (by conv => lhs; whnf) ?_); first
      | (apply ro_nil)
      | (apply ro_loadArr; exact rfl; exact rfl; (first | with_reducible exact .here | with_reducible exact .there (.here) | with_reducible exact .there (.there (.here)) | with_reducible exact .there (.there (.there (.here))) | with_reducible exact .there (.there (.there (.there (.here)))) | with_reducible exact .there (.there (.there (.there (.there (.here))))) | with_reducible exact .there (.there (.there (.there (.there (.there (.here)))))) | with_reducible exact .there (.there (.there (.there (.there (.there (.there (.here)))))))); omega; exact rfl)
      | (apply ro_loadArrG; exact rfl; exact rfl; (with_reducible assumption); omega; exact rfl)
      | (apply ro_loadV; exact rfl; exact rfl; (with_reducible assumption); omega; exact rfl)
      | (apply ro_load; exact rfl; exact rfl; (first | exact .here | exact .there (.here) | exact .there (.there (.here)) | exact .there (.there (.there (.here))) | exact .there (.there (.there (.there (.here)))) | exact .there (.there (.there (.there (.there (.here))))) | exact .there (.there (.there (.there (.there (.there (.here)))))) | exact .there (.there (.there (.there (.there (.there (.there (.here)))))))); (first | exact rfl | exact blt_of (by assumption) | exact blt_of (by omega)); (first | with_reducible assumption | (conv => lhs; whnf; try dsimp only [RS.wRv, RS.wBuf, RS.wOff, RS.wRem, RS.wSaw, RS.wWin, RS.wRep, RS.wHuf, RS.wCb, RS.wLit, RS.wFs, RS.wScr, RS.wChk, RS.wSeq])); exact rfl)
      | (apply ro_storeArr; exact rfl; exact rfl; (first | with_reducible rfl | exact lit_cast _); exact rfl; (first | with_reducible exact .here | with_reducible exact .there (.here) | with_reducible exact .there (.there (.here)) | with_reducible exact .there (.there (.there (.here))) | with_reducible exact .there (.there (.there (.there (.here)))) | with_reducible exact .there (.there (.there (.there (.there (.here))))) | with_reducible exact .there (.there (.there (.there (.there (.there (.here)))))) | with_reducible exact .there (.there (.there (.there (.there (.there (.there (.here)))))))); omega; assumption)
      | (apply ro_store; exact rfl; (first | with_reducible assumption | conv => lhs; whnf); exact rfl; (first | exact rfl | with_reducible assumption); (first | exact .here | exact .there (.here) | exact .there (.there (.here)) | exact .there (.there (.there (.here))) | exact .there (.there (.there (.there (.here)))) | exact .there (.there (.there (.there (.there (.here))))) | exact .there (.there (.there (.there (.there (.there (.here)))))) | exact .there (.there (.there (.there (.there (.there (.there (.here)))))))); (first | exact rfl | exact blt_of (by assumption) | exact blt_of (by omega)); (first | exact rfl | assumption); assumption)
      | (apply ro_addM; exact rfl; exact rfl; (first | with_reducible rfl | exact lit_cast _); (first | with_reducible rfl | exact lit_cast _); (first | exact lim8 (by omega) | exact lim32 (by omega) | exact limi64 (by omega) | exact lim64 (by omega) | exact lim16 (by omega) | exact limi16 (by omega) | exact limi32 (by omega)); exact rfl)
      | (apply ro_subM; exact rfl; exact rfl; (first | with_reducible rfl | exact lit_cast _); (first | with_reducible rfl | exact lit_cast _); omega; (first | exact lim8 (by omega) | exact lim32 (by omega) | exact limi64 (by omega) | exact lim64 (by omega) | exact lim16 (by omega) | exact limi16 (by omega) | exact limi32 (by omega)); exact rfl)
      | (apply ro_convM; exact rfl; (first | with_reducible rfl | exact lit_cast _); exact rfl; exact rfl; (first | exact lim8 (by omega) | exact lim32 (by omega) | exact limi64 (by omega) | exact lim64 (by omega) | exact lim16 (by omega) | exact limi16 (by omega) | exact limi32 (by omega)); exact rfl)
      | (apply ro_conv8; exact rfl; (first | with_reducible rfl | exact lit_cast _); exact rfl; exact rfl; exact rfl)
      | (apply ro_convU; exact rfl; (first | with_reducible rfl | exact lit_cast _); exact rfl; exact rfl; exact rfl; exact rfl)
      | (apply ro_ix1; exact rfl; exact rfl; (first | with_reducible rfl | exact lit_cast _); exact rfl; exact rfl; omega; exact rfl)
      | (apply ro_ixA1; exact rfl; exact rfl; (first | with_reducible rfl | exact lit_cast _); exact rfl; exact rfl; omega; exact rfl)
      | (apply ro_ixM; exact rfl; exact rfl; (first | with_reducible rfl | exact lit_cast _); exact rfl; exact rfl; omega; exact rfl)
      | (apply ro_ixAM; exact rfl; exact rfl; (first | with_reducible rfl | exact lit_cast _); exact rfl; exact rfl; omega; exact rfl)
      | (apply ro_slB; exact rfl; exact rfl; exact rfl; exact rfl; (first | with_reducible rfl | exact lit_cast _); omega; exact rfl)
      | (apply ro_slA; exact rfl; exact rfl; exact rfl; exact rfl; exact rfl; (first | with_reducible rfl | exact lit_cast _); (first | with_reducible rfl | exact lit_cast _); omega; omega; omega; exact rfl)
      | (apply ro_arrB; exact rfl; exact rfl; exact rfl; exact rfl; (first | with_reducible rfl | exact lit_cast _); omega; exact rfl)
      | (apply ro_arrA; exact rfl; exact rfl; exact rfl; exact rfl; exact rfl; (first | with_reducible rfl | exact lit_cast _); (first | with_reducible rfl | exact lit_cast _); omega; omega; omega; exact rfl)
      | (apply ro_pick (b := true); exact rfl; (first | with_reducible assumption | conv => lhs; whnf); exact rfl)
      | (apply ro_pick (b := false); exact rfl; (first | with_reducible assumption | conv => lhs; whnf); exact rfl)
      | (apply ro_wantG; exact rfl)
      | (apply ro_unwantG; exact rfl; exact rfl)
      | (apply ro_eqIntT; exact rfl; exact rfl; (first | with_reducible rfl | decide); exact rfl)
      | (apply ro_eqIntF; exact rfl; exact rfl; decide; exact rfl)
      | (apply ro_eqBoolT; exact rfl; exact rfl; exact rfl; (first | with_reducible rfl | decide); exact rfl)
      | (apply ro_eqInt; exact rfl; exact rfl; exact rfl)
      | (apply ro_neInt; exact rfl; exact rfl; exact rfl)
      | (apply ro_eqNil; exact rfl; exact rfl; exact rfl; exact rfl)
      | (apply ro_neNil0; exact rfl; exact rfl; exact rfl; exact rfl)
      | (apply ro_neNil1; exact rfl; exact rfl; exact rfl; exact rfl)
      | (apply ro_andZ; exact rfl; exact rfl; (first | with_reducible rfl | exact lit_cast _); (first | with_reducible rfl | exact lit_cast _); (first | exact lim8 (by omega) | exact lim32 (by omega) | exact limi64 (by omega) | exact lim64 (by omega) | exact lim16 (by omega) | exact limi16 (by omega) | exact limi32 (by omega)); (first | exact lim8 (by omega) | exact lim32 (by omega) | exact limi64 (by omega) | exact lim64 (by omega) | exact lim16 (by omega) | exact limi16 (by omega) | exact limi32 (by omega)); (first | exact and_1 _ | exact and_3 _ | exact and_7 _ | exact and_15 _ | exact and_31 _ | exact and_63 _ | exact and_255 _ | exact and_4095 _ | exact and_24 _ | exact rfl); exact rfl)
      | (apply ro_shrM; exact rfl; exact rfl; (first | with_reducible rfl | exact lit_cast _); (first | with_reducible rfl | exact lit_cast _); (first | decide | (simp only [IntKind.bits]; omega)); exact rfl)
      | (apply ro_shlM; exact rfl; exact rfl; (first | with_reducible rfl | exact lit_cast _); (first | with_reducible rfl | exact lit_cast _); (first | decide | (simp only [IntKind.bits]; omega)); (first | exact lim8 (by omega) | exact lim32 (by omega) | exact limi64 (by omega) | exact lim64 (by omega) | exact lim16 (by omega) | exact limi16 (by omega) | exact limi32 (by omega)); exact rfl)
      | (apply ro_mulM; exact rfl; exact rfl; (first | with_reducible rfl | exact lit_cast _); (first | with_reducible rfl | exact lit_cast _); (first | exact lim8 (by omega) | exact lim32 (by omega) | exact limi64 (by omega) | exact lim64 (by omega) | exact lim16 (by omega) | exact limi16 (by omega) | exact limi32 (by omega)); exact rfl)
      | (apply ro_quoM; exact rfl; exact rfl; (first | with_reducible rfl | exact lit_cast _); (first | with_reducible rfl | exact lit_cast _); omega; (first | exact lim8 (by omega) | exact lim32 (by omega) | exact limi64 (by omega) | exact lim64 (by omega) | exact lim16 (by omega) | exact limi16 (by omega) | exact limi32 (by omega)); exact rfl)
      | (apply ro_remM; exact rfl; exact rfl; (first | with_reducible rfl | exact lit_cast _); (first | with_reducible rfl | exact lit_cast _); omega; exact rfl)
      | (apply ro_add; exact rfl; exact rfl; (first | exact IntWalk.i64_in _ (by omega) | exact IntWalk.u32_in _ (by omega) | exact IntWalk.u64_in _ (by omega) | exact IntWalk.u8_in _ (by omega) | exact IntWalk.u16_in _ (by omega)); exact rfl)
      | (apply ro_sub; exact rfl; exact rfl; (first | exact IntWalk.i64_in _ (by omega) | exact IntWalk.u32_in _ (by omega) | exact IntWalk.u64_in _ (by omega) | exact IntWalk.u8_in _ (by omega) | exact IntWalk.u16_in _ (by omega)); exact rfl)
      | (apply ro_conv; exact rfl; exact rfl; exact rfl; (first | exact IntWalk.i64_in _ (by omega) | exact IntWalk.u32_in _ (by omega) | exact IntWalk.u64_in _ (by omega) | exact IntWalk.u8_in _ (by omega) | exact IntWalk.u16_in _ (by omega)); exact rfl)
      | (apply ro_notT; exact rfl; exact rfl)
      | (apply ro_notF; exact rfl; exact rfl)
      | (apply ro_notP; exact rfl; exact rfl)
      | (apply ro_not; exact rfl; exact rfl)
      | (apply ro_move; (first | with_reducible assumption | conv => lhs; whnf); exact rfl)
      | (apply ro_assign; (first | with_reducible assumption | conv => lhs; whnf); exact rfl)
      | (apply ro_makeInterface; (first | with_reducible assumption | conv => lhs; whnf); exact rfl; exact rfl)
      | (apply ro_makeMethod; (first | with_reducible assumption | conv => lhs; whnf); exact rfl)
      | (apply ro_extract; exact rfl; exact rfl; exact rfl)
      | (apply ro_loadG; exact rfl; exact rfl; (first | exact .here | exact .there (.here) | exact .there (.there (.here)) | exact .there (.there (.there (.here))) | exact .there (.there (.there (.there (.here)))) | exact .there (.there (.there (.there (.there (.here))))) | exact .there (.there (.there (.there (.there (.there (.here)))))) | exact .there (.there (.there (.there (.there (.there (.there (.here)))))))); (first | exact rfl | exact blt_of (by assumption) | exact blt_of (by omega)); (first | with_reducible assumption | conv => lhs; whnf); exact rfl)
      | refine J_seq ?_
      | refine J_region (qs := qsT) mixed_ok (by kernel_rfl) ?_
      | refine J_block ?_
      | refine J_exit ?_
      | refine J_skip ?_
      | refine J_label ?_
      | refine J_condT' rfl (by with_reducible rfl) ?_
      | refine J_condF' rfl (by with_reducible rfl) ?_)
    try refine ro_batch (by conv => lhs; whnf) ?_
    exact Keep.out hk) : A := h ⟨k⟩

end Go.Eng

/-! WALKS 1: ERRORS. -/
namespace Go.Proofs.YtogmacnlpclgkaaDoor
open Go Go.Eng
attribute [local irreducible] RO J Trip Quiet

/-- The package-level variables, among the blocks that nobody turns. -/
structure Sent (G : Mem) where
  eb : Nat
  eo : Nat
  ub : Nat
  uo : Nat
  E0 : Blk
  E1 : Blk
  U0 : Blk
  U1 : Blk
  e0 : (0, E0) ∈ G
  e0n : 0 < E0.n
  e0g : E0.g 0 = .iface 122 (.pointer (some ⟨eb, eo, none⟩))
  e1 : (eb, E1) ∈ G
  e1f : E1.fr = (0, 0)
  u0 : (1, U0) ∈ G
  u0n : 0 < U0.n
  u0g : U0.g 0 = .iface 122 (.pointer (some ⟨ub, uo, none⟩))
  u1 : (ub, U1) ∈ G
  u1f : U1.fr = (0, 0)
  ne : ub ≠ eb ∨ uo ≠ eo

theorem swap1 (p : Nat × Blk) (m : Mem) : MEqv (p :: m) (m ++ [p]) := .of_perm (by simpa using (List.perm_append_comm (l₁ := [p]) (l₂ := m)))

/-- What an error is. -/
inductive EV
  | nil | eof | ueof | z
def Sent.eofV {G : Mem} (S : Sent G) : Value := .iface 122 (.pointer (some ⟨S.eb, S.eo, none⟩))
def Sent.ueofV {G : Mem} (S : Sent G) : Value := .iface 122 (.pointer (some ⟨S.ub, S.uo, none⟩))
def ErrV {G : Mem} (S : Sent G) : EV → Value → Prop
  | .nil, v => v = .nilIface
  | .eof, v => v = S.eofV
  | .ueof, v => v = S.ueofV
  | .z, v => ∃ b, v = .iface 108 (.pointer (some ⟨b, 0, none⟩))

theorem ptrInfo0 : (Tryd.prog.info? 122).map (·.comparable) = some true := by kernel_rfl
theorem ptrInfo : ∃ i, Tryd.prog.info? 122 = some i ∧ i.comparable = true := by
  have := ptrInfo0
  simpa [Option.map_eq_some_iff] using this

/-- errors.New -/
theorem new_t (G : Mem) (s : ByteArray) : Trip Tryd.prog G 50 #[.string s] [] (fun v m =>
    ∃ b, v = .iface 122 (.pointer (some ⟨b, 0, none⟩)) ∧ m = [(b, listB [.string s] 124)]) := by
  refine Trip_of Tryd.func50 rfl (by show 1 ≤ _; decide) (args := [.string s]) fun c h0 hex => ?_
  refine run _ ?_
  refine ro_build1 (vs := [.string s]) rfl rfl z124 rfl rfl rfl rfl ?_
  refine runO _ ?_
  refine ro_box (by conv => lhs; whnf) rfl rfl hex fun b hb => ?_
  refine runO _ ?_
  refine run _ ?_
  refine J_ret ?_
  exact ends_ret [2] rfl (post := [(b, listB [.string s] 124)]) (junk := []) (.refl _) ⟨b, rfl, rfl⟩

/-- wrapError, of an error other than io.EOF -/
theorem wrapError_z (G : Mem) (S : Sent G) (rb : Nat) (RB : Blk) (x off : Int) (hn : 6 < RB.n) (hx : RB.g 6 = .int .i64 x) (b o : Nat) (dm : Mem) (B : Blk) (hB : (b, B) ∈ dm ++ G) (hf : B.fr = (0, 0)) (hne : (((rb, RB) :: dm ++ G).map (·.1)).Nodup → b ≠ S.eb ∨ o ≠ S.eo) :
    Trip Tryd.prog G 37 #[.pointer (some ⟨rb, 0, none⟩), .int .i64 off, .iface 122 (.pointer (some ⟨b, o, none⟩))] ((rb, RB) :: dm) (fun v m =>
      ErrV S .z v ∧ m = (rb, RB) :: dm) := by
  refine Trip_of Tryd.func37 rfl (by show 3 ≤ _; decide) (args := [.pointer (some ⟨rb, 0, none⟩), .int .i64 off, .iface 122 (.pointer (some ⟨b, o, none⟩))]) fun c h0 hex => ?_
  refine J_nodup fun hnd => ?_
  have hne := hne hnd
  obtain ⟨i, hi, hc⟩ := ptrInfo
  refine run _ ?_
  refine ro_loadA rfl rfl (by simp [S.e0]) S.e0n S.e0g rfl ?_
  refine runO _ ?_
  refine ro_eqPtrs (r := false) (B := B) (B' := S.E1) rfl rfl rfl rfl hi hc rfl ?_ rfl ?_
  · by_cases hb : b = S.eb
    · exact .inl ⟨hb, by have := hne.resolve_left (fun h => h hb); simp [this]⟩
    · exact .inr ⟨hb, rfl, by rcases List.mem_append.1 hB with h | h <;> simp [h], by simp [S.e1], hf, S.e1f⟩
  refine runO _ ?_
  refine run _ ?_
  refine ro_bin (op := .add) rfl rfl rfl rfl ?_
  refine runO _ ?_
  refine ro_build1 (vs := [.int .i64 (IntKind.i64.wrap (x + off)), .iface 122 (.pointer (some ⟨b, o, none⟩))]) rfl rfl z110 rfl rfl rfl rfl ?_
  refine runO _ ?_
  refine ro_box (by conv => lhs; whnf) rfl rfl hex fun b' hb' => ?_
  refine runO _ ?_
  refine run _ ?_
  refine J_ret ?_
  exact ends_retS [6] ⟨⟨b', rfl⟩, rfl⟩ rfl (swap1 _ _)

/-- wrapError, of io.EOF -/
theorem wrapError_eof (G : Mem) (S : Sent G) (rb : Nat) (off : Int) :
    Trip Tryd.prog G 37 #[.pointer (some ⟨rb, 0, none⟩), .int .i64 off, S.eofV] [] (fun v m => v = S.eofV ∧ m = []) := by
  refine Trip_of Tryd.func37 rfl (by show 3 ≤ _; decide) (args := [.pointer (some ⟨rb, 0, none⟩), .int .i64 off, S.eofV]) fun c h0 hex => ?_
  obtain ⟨i, hi, hc⟩ := ptrInfo
  refine run _ ?_
  refine ro_loadA rfl rfl (by simp [S.e0]) S.e0n S.e0g rfl ?_
  refine runO _ ?_
  refine ro_eqPtrs (r := true) (B := S.E1) (B' := S.E1) rfl rfl rfl rfl hi hc rfl (.inl ⟨rfl, by simp⟩) rfl ?_
  refine runO _ ?_
  refine run _ ?_
  refine J_ret ?_
  exact ends_ret [6] rfl (post := []) (junk := []) (.refl _) ⟨rfl, rfl⟩

/-- makeError -/
theorem makeError_t (G : Mem) (S : Sent G) (rb : Nat) (RB : Blk) (x off : Int) (s : ByteArray) (hn : 6 < RB.n) (hx : RB.g 6 = .int .i64 x) :
    Trip Tryd.prog G 40 #[.pointer (some ⟨rb, 0, none⟩), .int .i64 off, .string s] [(rb, RB)] (fun v m => ErrV S .z v ∧ m = [(rb, RB)]) := by
  refine Trip_of Tryd.func40 rfl (by show 3 ≤ _; decide) (args := [.pointer (some ⟨rb, 0, none⟩), .int .i64 off, .string s]) fun c h0 hex => ?_
  refine run _ ?_
  refine ro_callT (new_t G s) ?_
  rintro v m ⟨b, rfl, rfl⟩
  refine runO _ ?_
  refine ro_callT (wrapError_z G S rb RB x off hn hx b 0 [(b, listB [.string s] 124)] _ (by simp; exact .inl rfl) rfl ?_) ?_
  · intro hnd
    left
    intro he
    simp only [List.cons_append, List.nil_append, List.map_cons, List.nodup_cons, List.mem_cons, List.mem_map] at hnd
    exact hnd.2.1 ⟨_, S.e1, he.symm⟩
  rintro v m ⟨hv, rfl⟩
  obtain ⟨b', rfl⟩ := hv
  refine runO _ ?_
  refine run _ ?_
  refine J_ret ?_
  exact ends_retS [6] ⟨⟨b', rfl⟩, rfl⟩

/-- makeEOFError -/
theorem makeEOFError_t (G : Mem) (S : Sent G) (rb : Nat) (RB : Blk) (x off : Int) (hn : 6 < RB.n) (hx : RB.g 6 = .int .i64 x) :
    Trip Tryd.prog G 48 #[.pointer (some ⟨rb, 0, none⟩), .int .i64 off] [(rb, RB)] (fun v m => ErrV S .z v ∧ m = [(rb, RB)]) := by
  refine Trip_of Tryd.func48 rfl (by show 2 ≤ _; decide) (args := [.pointer (some ⟨rb, 0, none⟩), .int .i64 off]) fun c h0 hex => ?_
  refine run _ ?_
  refine ro_loadA rfl rfl (by simp [S.u0]) S.u0n S.u0g rfl ?_
  refine runO _ ?_
  refine ro_callT (wrapError_z G S rb RB x off hn hx S.ub S.uo [] S.U1 (by simp [S.u1]) S.u1f (fun _ => S.ne)) ?_
  rintro v m ⟨hv, rfl⟩
  obtain ⟨b', rfl⟩ := hv
  refine runO _ ?_
  refine run _ ?_
  refine J_ret ?_
  exact ends_ret [4] rfl (post := [(rb, RB)]) (junk := []) (.refl _) ⟨⟨b', rfl⟩, rfl⟩

/-- wrapNonEOFError, of io.EOF and of io.ErrUnexpectedEOF -/
theorem wrapNonEOF_t (G : Mem) (S : Sent G) (rb : Nat) (RB : Blk) (x off : Int) (e : EV) (v : Value) (he : e = .eof ∨ e = .ueof) (hv : ErrV S e v) (hn : 6 < RB.n) (hx : RB.g 6 = .int .i64 x) :
    Trip Tryd.prog G 41 #[.pointer (some ⟨rb, 0, none⟩), .int .i64 off, v] [(rb, RB)] (fun v m => ErrV S .z v ∧ m = [(rb, RB)]) := by
  refine Trip_of Tryd.func41 rfl (by show 3 ≤ _; decide) (args := [.pointer (some ⟨rb, 0, none⟩), .int .i64 off, v]) fun c h0 hex => ?_
  obtain ⟨i, hi, hc⟩ := ptrInfo
  rcases he with rfl | rfl <;> cases hv
  · refine run _ ?_
    refine ro_loadA rfl rfl (by simp [S.e0]) S.e0n S.e0g rfl ?_
    refine runO _ ?_
    refine ro_eqPtrs (r := true) (B := S.E1) (B' := S.E1) rfl rfl rfl rfl hi hc rfl (.inl ⟨rfl, by simp⟩) rfl ?_
    refine runO _ ?_
    refine run _ ?_
    refine ro_loadA rfl rfl (by simp [S.u0]) S.u0n S.u0g rfl ?_
    refine runO _ ?_
    refine run _ ?_
    refine ro_callT (wrapError_z G S rb RB x off hn hx S.ub S.uo [] S.U1 (by simp [S.u1]) S.u1f (fun _ => S.ne)) ?_
    rintro v m ⟨hv, rfl⟩
    obtain ⟨b', rfl⟩ := hv
    refine runO _ ?_
    refine run _ ?_
    refine J_ret ?_
    exact ends_ret [6] rfl (post := [(rb, RB)]) (junk := []) (.refl _) ⟨⟨b', rfl⟩, rfl⟩
  · refine run _ ?_
    refine ro_loadA rfl rfl (by simp [S.e0]) S.e0n S.e0g rfl ?_
    refine runO _ ?_
    refine ro_eqPtrs (r := false) (B := S.U1) (B' := S.E1) rfl rfl rfl rfl hi hc rfl ?_ rfl ?_
    · by_cases hb : S.ub = S.eb
      · exact .inl ⟨hb, by have := S.ne.resolve_left (fun h => h hb); simp [this]⟩
      · exact .inr ⟨hb, rfl, by simp [S.u1], by simp [S.e1], S.u1f, S.e1f⟩
    refine runO _ ?_
    refine run _ ?_
    refine ro_callT (wrapError_z G S rb RB x off hn hx S.ub S.uo [] S.U1 (by simp [S.u1]) S.u1f (fun _ => S.ne)) ?_
    rintro v m ⟨hv, rfl⟩
    obtain ⟨b', rfl⟩ := hv
    refine runO _ ?_
    refine run _ ?_
    refine J_ret ?_
    exact ends_ret [6] rfl (post := [(rb, RB)]) (junk := []) (.refl _) ⟨⟨b', rfl⟩, rfl⟩

end Go.Proofs.YtogmacnlpclgkaaDoor

/-! JOINS 1: from a walk over the blocks as they lie when the call begins to the statement's own words. -/
namespace Go.Proofs.YtogmacnlpclgkaaDoor
open Go Go.Eng Go.ChangeShapes Go.WideShapes Go.RowKit

/-! All blocks of cells -/
def objBlk : Obj → Option Blk
  | .cells cs T fr => some ⟨cs.size, fun i => cs.getD i undef, T, fr⟩
  | _ => none
theorem objBlk_obj {o : Obj} {B : Blk} (h : objBlk o = some B) : B.obj = o := by
  unfold objBlk at h
  split at h
  · rename_i cs T fr
    cases h
    unfold Blk.obj Blk.cells
    congr 1
    apply Array.ext
    · simp
    · intro i h1 h2
      simp
  · cases h
def heapG (h : Heap) : Mem := (List.range h.size).filterMap fun i => ((h[i]?).bind objBlk).map fun B => (i, B)
theorem heapG_has {h : Heap} : ∀ p ∈ heapG h, h[p.1]? = some p.2.obj := by
  intro p hp
  unfold heapG at hp
  simp only [List.mem_filterMap, Option.map_eq_some_iff, Option.bind_eq_some_iff] at hp
  obtain ⟨i, _, B, ⟨o, ho, hB⟩, rfl⟩ := hp
  rw [objBlk_obj hB]; exact ho
theorem heapG_mem {h : Heap} {b : Nat} {cs : Array Value} {T : TypeId} {fr : Nat × Nat} (hb : h[b]? = some (.cells cs T fr)) : (b, (⟨cs.size, fun i => cs.getD i undef, T, fr⟩ : Blk)) ∈ heapG h := by
  unfold heapG
  simp only [List.mem_filterMap, Option.map_eq_some_iff, Option.bind_eq_some_iff, List.mem_range]
  exact ⟨b, (Array.getElem?_eq_some_iff.1 hb).1, _, ⟨_, hb, rfl⟩, rfl⟩
theorem heapG_nodup (h : Heap) : ((heapG h).map (·.1)).Nodup := by
  unfold heapG
  have key : ∀ l : List Nat, l.Nodup → ((l.filterMap fun i => ((h[i]?).bind objBlk).map fun B => (i, B)).map (·.1)).Nodup ∧ ∀ x ∈ (l.filterMap fun i => ((h[i]?).bind objBlk).map fun B => (i, B)).map (·.1), x ∈ l := by
    intro l
    induction l with
    | nil => intro _; simp
    | cons i l ih =>
      intro hn
      obtain ⟨h1, h2⟩ := List.nodup_cons.1 hn
      obtain ⟨i1, i2⟩ := ih h2
      rw [List.filterMap_cons]
      cases hq : ((h[i]?).bind objBlk).map fun B => (i, B) with
      | none => exact ⟨i1, fun x hx => List.mem_cons_of_mem _ (i2 x hx)⟩
      | some p =>
        have hp : p.1 = i := by
          simp only [Option.map_eq_some_iff] at hq
          obtain ⟨B, _, rfl⟩ := hq
          rfl
        refine ⟨?_, fun x hx => ?_⟩
        · simp only [List.map_cons, List.nodup_cons]
          rw [hp]
          exact ⟨fun hc => h1 (i2 i hc), i1⟩
        · rw [List.map_cons, List.mem_cons] at hx
          rcases hx with rfl | hx
          · rw [hp]; exact List.mem_cons_self
          · exact List.mem_cons_of_mem _ (i2 x hx)
  exact (key _ List.nodup_range).1

theorem own_heapG (h : Heap) : Own ⟨h, [], false⟩ (heapG h) [] h where
  size := Nat.le_refl _
  has := by simpa using heapG_has
  nodup := by simpa using heapG_nodup h
  known := by simp
  old := fun _ _ _ => rfl
  ex := fun h => by cases h

theorem calls_of_trip {P : Program} {fn : FuncId} {args : Array Value} {R : Value → Mem → Prop} {W : World} (t : Trip P (heapG W.heap) fn args [] R) :
    Calls P fn args W (fun e W' => ∃ v m, e = .returned v ∧ Below W.heap.size W W' ∧ R v m) :=
  (t W W.heap W (At.self W) (own_heapG _)).mono fun _ _ ⟨v, m, h', he, hc, ho, hR⟩ =>
    ⟨v, m, he, ⟨hc.2.2.1, hc.2.1, hc.2.2.2, by rw [hc.1]; exact ho.size, fun k hk => by rw [hc.1]; exact ho.old k hk (by simp [Mem.keys])⟩, hR⟩

/-! Arguments -/
theorem cell_some {W : World} {b o : Nat} {v : Value} (h : W.cell? ⟨b, o, none⟩ = some v) : ∃ cs T fr, W.heap[b]? = some (.cells cs T fr) ∧ o < cs.size ∧ cs.getD o undef = v := by
  unfold World.cell? at h
  split at h
  · rename_i c T fr hb
    simp only [Option.isSome_none, Bool.false_eq_true, if_false] at h
    have hlt := (Array.getElem?_eq_some_iff.1 h).1
    exact ⟨c, T, fr, hb, hlt, by rw [Array.getD_eq_getD_getElem?, h]; rfl⟩
  · cases h
theorem slice_cells {P : Program} {w : World} {base : Nat} {t e : TypeId} {v : Value} (ht : P.underlying t = some (.slice e)) (hval : Value.okWide P w .any base t v) :
    v = .slice none 0 0 ∨ ∃ b o len cap row c, v = .slice (some ⟨b, o, none⟩) len cap ∧ w.shape? b = some (row, c) := by
  unfold Value.okWide at hval
  simp only [ht] at hval
  unfold Cell.okWide at hval
  cases v with
  | slice oa len cap =>
    simp only [ht] at hval
    unfold Cell.ok at hval
    simp only [ht] at hval
    cases oa with
    | none =>
      cases len with
      | zero => cases cap with
        | zero => exact .inl rfl
        | succ c => exact hval.elim
      | succ l => exact hval.elim
    | some a =>
      obtain ⟨_, _, _, hs, row, c, hr, _⟩ := hval
      obtain ⟨b, o, s⟩ := a
      simp only at hs
      subst hs
      exact .inr ⟨b, o, len, cap, row, c, rfl, hr⟩
  | _ =>
    simp only [ht] at hval
    unfold Cell.ok at hval
    simp only [ht] at hval
/-- An argument of type []byte. -/
theorem view_of_trod {H : Type} {enc : TypeId × Value → H} {P : Program} {w : World} {base : Nat} {t e : TypeId} {v : Value} {d : DataW H} {ps : List MemPlace} (ht : P.underlying t = some (.slice e)) (he : P.underlying e = some (.int .u8)) (hc : P.cellsOf e = 1)
    (hval : Value.okWide P w .any base t v) (h : DataW.Trod enc P w 0 (fun _ => true) true t v d ps) : ∃ oa n cp x, v = .slice oa n cp ∧ (∀ i, x i < 256) ∧ View (heapG w.heap) oa n cp x ∧ cp ≤ maxLen := by
  obtain ⟨fuel, h⟩ := h
  rcases slice_cells ht hval with rfl | ⟨b, o, len, cap, row, c, rfl, hr⟩
  · exact ⟨none, 0, 0, fun _ => 0, rfl, fun _ => by show 0 < 256; omega, ⟨Nat.le_refl _, .inl ⟨rfl, rfl, rfl⟩⟩, Nat.zero_le _⟩
  · rcases open_ints ht he hc h with ⟨h1, _⟩ | ⟨a, len', cap', zs, h1, _, h2, h3, h4, _, h5, h6⟩
    · simp [Value.cells] at h1
    · simp only [Value.cells, List.cons.injEq, Value.slice.injEq, Option.some.injEq, and_true] at h1
      obtain ⟨rfl, rfl, rfl⟩ := h1
      simp only [if_true] at h4
      have hz : ∀ i, i < cap → ∃ y : Nat, y < 256 ∧ zs.getD i 0 = y := fun i hi => by
        have hm : zs.getD i 0 ∈ zs := by
          rw [List.getD_eq_getElem?_getD, List.getElem?_eq_getElem (by omega)]
          exact List.getElem_mem _
        have := h6 _ hm
        generalize zs.getD i 0 = z at *
        simp [Lit.wf, IntKind.min, IntKind.max, IntKind.signed, IntKind.bits] at this
        exact ⟨z.toNat, by omega, by omega⟩
      have hc' : ∀ i, i < cap → w.cell? ⟨b, o + i, none⟩ = some (.int .u8 (zs.getD i 0)) := fun i hi => by
        have := h5 i (by omega)
        rwa [Addr_add] at this
      obtain ⟨cs, T, fr, hb⟩ : ∃ cs T fr, w.heap[b]? = some (.cells cs T fr) := by
        unfold World.shape? at hr
        split at hr
        · rename_i cs T fr hb; exact ⟨cs, T, fr, hb⟩
        · cases hr
      refine ⟨_, len, cap, fun i => (zs.getD i 0).toNat % 256, rfl, fun i => Nat.mod_lt _ (by omega), ⟨h2, .inr ⟨b, o, _, rfl, heapG_mem hb, fun h0 => ?_, fun i hi => ?_⟩⟩, h3⟩
      · obtain ⟨cs', T', fr', hb', hlt, _⟩ := cell_some (hc' (len - 1) (by omega))
        rw [hb] at hb'
        cases hb'
        show o + len ≤ cs.size
        omega
      · obtain ⟨cs', T', fr', hb', hlt, hv⟩ := cell_some (hc' i (by omega))
        rw [hb] at hb'
        cases hb'
        obtain ⟨y, hy, he⟩ := hz i (by omega)
        show cs.getD (o + i) undef = _
        rw [hv, he]
        simp only [Int.toNat_natCast]
        rw [Nat.mod_eq_of_lt hy]
end Go.Proofs.YtogmacnlpclgkaaDoor
