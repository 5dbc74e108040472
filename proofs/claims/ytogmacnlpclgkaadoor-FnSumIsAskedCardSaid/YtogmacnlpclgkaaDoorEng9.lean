/-
  AN ENGINE OF WALKS, PART 9: THE WALK BY ITSELF, AS FAR AS IT GOES WITHOUT A CHOICE (the default proof of the last argument of 'run' and 'runO').
-/
import Derived.Test.YtogmacnlpclgkaaDoorEngI
import Derived.Test.YtogmacnlpclgkaaDoorTab
namespace Go.Eng
open Go Go.Proofs.YtogmacnlpclgkaaDoor

structure Keep (p : Prop) : Prop where
  out : p
theorem blt_of {a b : Nat} (h : a < b) : Nat.blt a b = true := by simpa [Nat.blt_eq] using h

/-- From inside a region: what is left of it behind the steps that need no choice. -/
theorem runO (A : Prop) {B : Prop} (k : B) (h : Keep B → A := by
    intro hk
    repeat (refine ro_batch (by conv => lhs; whnf) ?_; first
      | (apply ro_nil)
      | (apply ro_load; exact rfl; exact rfl; (first | exact .here | exact .there (.here) | exact .there (.there (.here)) | exact .there (.there (.there (.here))) | exact .there (.there (.there (.there (.here)))) | exact .there (.there (.there (.there (.there (.here))))) | exact .there (.there (.there (.there (.there (.there (.here)))))) | exact .there (.there (.there (.there (.there (.there (.there (.here)))))))); (first | exact rfl | exact blt_of (by assumption) | exact blt_of (by omega)); (first | with_reducible assumption | conv => lhs; whnf); exact rfl)
      | (apply ro_store; exact rfl; (first | with_reducible assumption | conv => lhs; whnf); exact rfl; exact rfl; (first | exact .here | exact .there (.here) | exact .there (.there (.here)) | exact .there (.there (.there (.here))) | exact .there (.there (.there (.there (.here)))) | exact .there (.there (.there (.there (.there (.here))))) | exact .there (.there (.there (.there (.there (.there (.here)))))) | exact .there (.there (.there (.there (.there (.there (.there (.here)))))))); (first | exact rfl | exact blt_of (by assumption) | exact blt_of (by omega)); (first | exact rfl | assumption); assumption)
      | (apply ro_add; exact rfl; exact rfl; (first | exact IntWalk.i64_in _ (by omega) | exact IntWalk.u32_in _ (by omega) | exact IntWalk.u64_in _ (by omega) | exact IntWalk.u8_in _ (by omega) | exact IntWalk.u16_in _ (by omega)); exact rfl)
      | (apply ro_sub; exact rfl; exact rfl; (first | exact IntWalk.i64_in _ (by omega) | exact IntWalk.u32_in _ (by omega) | exact IntWalk.u64_in _ (by omega) | exact IntWalk.u8_in _ (by omega) | exact IntWalk.u16_in _ (by omega)); exact rfl)
      | (apply ro_conv; exact rfl; exact rfl; exact rfl; (first | exact IntWalk.i64_in _ (by omega) | exact IntWalk.u32_in _ (by omega) | exact IntWalk.u64_in _ (by omega) | exact IntWalk.u8_in _ (by omega) | exact IntWalk.u16_in _ (by omega)); exact rfl)
      | (apply ro_pick (b := true); exact rfl; (first | with_reducible assumption | conv => lhs; whnf); exact rfl)
      | (apply ro_pick (b := false); exact rfl; (first | with_reducible assumption | conv => lhs; whnf); exact rfl)
      | (apply ro_wantG; exact rfl)
      | (apply ro_unwantG; exact rfl; exact rfl)
      | (apply ro_eqIntT; exact rfl; exact rfl; (first | with_reducible rfl | decide); exact rfl)
      | (apply ro_eqIntF; exact rfl; exact rfl; decide; exact rfl)
      | (apply ro_eqBoolT; exact rfl; exact rfl; exact rfl; (first | with_reducible rfl | decide); exact rfl)
      | (apply ro_eqInt; exact rfl; exact rfl; exact rfl)
      | (apply ro_neInt; exact rfl; exact rfl; exact rfl)
      | (apply ro_eqNil; exact rfl; exact rfl; exact rfl; exact rfl)
      | (apply ro_neNil0; exact rfl; exact rfl; exact rfl; exact rfl)
      | (apply ro_neNil1; exact rfl; exact rfl; exact rfl; exact rfl)
      | (apply ro_shlL; exact rfl; exact rfl; decide; decide; (conv => lhs; simp); (first | exact IntWalk.i64_in _ (by omega) | exact IntWalk.u32_in _ (by omega) | exact IntWalk.u64_in _ (by omega) | exact IntWalk.u8_in _ (by omega) | exact IntWalk.u16_in _ (by omega)); exact rfl)
      | (apply ro_shrL; exact rfl; exact rfl; decide; decide; (conv => lhs; simp); exact rfl)
      | (apply ro_mul; exact rfl; exact rfl; (first | exact IntWalk.i64_in _ (by omega) | exact IntWalk.u32_in _ (by omega) | exact IntWalk.u64_in _ (by omega) | exact IntWalk.u8_in _ (by omega) | exact IntWalk.u16_in _ (by omega)); exact rfl)
      | (apply ro_notT; exact rfl; exact rfl)
      | (apply ro_notF; exact rfl; exact rfl)
      | (apply ro_notP; exact rfl; exact rfl)
      | (apply ro_move; (first | with_reducible assumption | conv => lhs; whnf); exact rfl)
      | (apply ro_assign; (first | with_reducible assumption | conv => lhs; whnf); exact rfl)
      | (apply ro_makeInterface; (first | with_reducible assumption | conv => lhs; whnf); exact rfl; exact rfl)
      | (apply ro_makeMethod; (first | with_reducible assumption | conv => lhs; whnf); exact rfl)
      | (apply ro_extract; exact rfl; exact rfl; exact rfl)
      | (apply ro_loadG; exact rfl; exact rfl; (first | exact .here | exact .there (.here) | exact .there (.there (.here)) | exact .there (.there (.there (.here))) | exact .there (.there (.there (.there (.here)))) | exact .there (.there (.there (.there (.there (.here))))) | exact .there (.there (.there (.there (.there (.there (.here)))))) | exact .there (.there (.there (.there (.there (.there (.there (.here)))))))); (first | exact rfl | exact blt_of (by assumption) | exact blt_of (by omega)); (first | with_reducible assumption | conv => lhs; whnf); exact rfl)
      | (apply ro_indexSl1; exact rfl; exact rfl; exact rfl; exact rfl; omega; omega; exact rfl)
      | (apply ro_indexArr1; exact rfl; exact rfl; exact rfl; exact rfl; omega; omega; exact rfl))
    try refine ro_batch (by conv => lhs; whnf) ?_
    exact Keep.out hk) : A := h ⟨k⟩

/-- From code on: what is left behind the steps that need no choice. -/
theorem run (A : Prop) {B : Prop} (k : B) (h : Keep B → A := by
    intro hk
    repeat (first
      | refine J_seq ?_
      | (refine J_region (qs := qsT) mixed_ok (by kernel_rfl) ?_
         repeat (refine ro_batch (by conv => lhs; whnf) ?_; first
           | (apply ro_nil)
           | (apply ro_load; exact rfl; exact rfl; (first | exact .here | exact .there (.here) | exact .there (.there (.here)) | exact .there (.there (.there (.here))) | exact .there (.there (.there (.there (.here)))) | exact .there (.there (.there (.there (.there (.here))))) | exact .there (.there (.there (.there (.there (.there (.here)))))) | exact .there (.there (.there (.there (.there (.there (.there (.here)))))))); (first | exact rfl | exact blt_of (by assumption) | exact blt_of (by omega)); (first | with_reducible assumption | conv => lhs; whnf); exact rfl)
           | (apply ro_store; exact rfl; (first | with_reducible assumption | conv => lhs; whnf); exact rfl; exact rfl; (first | exact .here | exact .there (.here) | exact .there (.there (.here)) | exact .there (.there (.there (.here))) | exact .there (.there (.there (.there (.here)))) | exact .there (.there (.there (.there (.there (.here))))) | exact .there (.there (.there (.there (.there (.there (.here)))))) | exact .there (.there (.there (.there (.there (.there (.there (.here)))))))); (first | exact rfl | exact blt_of (by assumption) | exact blt_of (by omega)); (first | exact rfl | assumption); assumption)
           | (apply ro_add; exact rfl; exact rfl; (first | exact IntWalk.i64_in _ (by omega) | exact IntWalk.u32_in _ (by omega) | exact IntWalk.u64_in _ (by omega) | exact IntWalk.u8_in _ (by omega) | exact IntWalk.u16_in _ (by omega)); exact rfl)
           | (apply ro_sub; exact rfl; exact rfl; (first | exact IntWalk.i64_in _ (by omega) | exact IntWalk.u32_in _ (by omega) | exact IntWalk.u64_in _ (by omega) | exact IntWalk.u8_in _ (by omega) | exact IntWalk.u16_in _ (by omega)); exact rfl)
           | (apply ro_conv; exact rfl; exact rfl; exact rfl; (first | exact IntWalk.i64_in _ (by omega) | exact IntWalk.u32_in _ (by omega) | exact IntWalk.u64_in _ (by omega) | exact IntWalk.u8_in _ (by omega) | exact IntWalk.u16_in _ (by omega)); exact rfl)
           | (apply ro_pick (b := true); exact rfl; (first | with_reducible assumption | conv => lhs; whnf); exact rfl)
           | (apply ro_pick (b := false); exact rfl; (first | with_reducible assumption | conv => lhs; whnf); exact rfl)
           | (apply ro_wantG; exact rfl)
           | (apply ro_unwantG; exact rfl; exact rfl)
           | (apply ro_eqIntT; exact rfl; exact rfl; (first | with_reducible rfl | decide); exact rfl)
           | (apply ro_eqIntF; exact rfl; exact rfl; decide; exact rfl)
           | (apply ro_eqBoolT; exact rfl; exact rfl; exact rfl; (first | with_reducible rfl | decide); exact rfl)
           | (apply ro_eqInt; exact rfl; exact rfl; exact rfl)
           | (apply ro_neInt; exact rfl; exact rfl; exact rfl)
           | (apply ro_eqNil; exact rfl; exact rfl; exact rfl; exact rfl)
           | (apply ro_neNil0; exact rfl; exact rfl; exact rfl; exact rfl)
           | (apply ro_neNil1; exact rfl; exact rfl; exact rfl; exact rfl)
           | (apply ro_shlL; exact rfl; exact rfl; decide; decide; (conv => lhs; simp); (first | exact IntWalk.i64_in _ (by omega) | exact IntWalk.u32_in _ (by omega) | exact IntWalk.u64_in _ (by omega) | exact IntWalk.u8_in _ (by omega) | exact IntWalk.u16_in _ (by omega)); exact rfl)
           | (apply ro_shrL; exact rfl; exact rfl; decide; decide; (conv => lhs; simp); exact rfl)
           | (apply ro_mul; exact rfl; exact rfl; (first | exact IntWalk.i64_in _ (by omega) | exact IntWalk.u32_in _ (by omega) | exact IntWalk.u64_in _ (by omega) | exact IntWalk.u8_in _ (by omega) | exact IntWalk.u16_in _ (by omega)); exact rfl)
           | (apply ro_notT; exact rfl; exact rfl)
           | (apply ro_notF; exact rfl; exact rfl)
           | (apply ro_notP; exact rfl; exact rfl)
           | (apply ro_move; (first | with_reducible assumption | conv => lhs; whnf); exact rfl)
           | (apply ro_assign; (first | with_reducible assumption | conv => lhs; whnf); exact rfl)
           | (apply ro_makeInterface; (first | with_reducible assumption | conv => lhs; whnf); exact rfl; exact rfl)
           | (apply ro_makeMethod; (first | with_reducible assumption | conv => lhs; whnf); exact rfl)
           | (apply ro_extract; exact rfl; exact rfl; exact rfl)
           | (apply ro_loadG; exact rfl; exact rfl; (first | exact .here | exact .there (.here) | exact .there (.there (.here)) | exact .there (.there (.there (.here))) | exact .there (.there (.there (.there (.here)))) | exact .there (.there (.there (.there (.there (.here))))) | exact .there (.there (.there (.there (.there (.there (.here)))))) | exact .there (.there (.there (.there (.there (.there (.there (.here)))))))); (first | exact rfl | exact blt_of (by assumption) | exact blt_of (by omega)); (first | with_reducible assumption | conv => lhs; whnf); exact rfl)
           | (apply ro_indexSl1; exact rfl; exact rfl; exact rfl; exact rfl; omega; omega; exact rfl)
           | (apply ro_indexArr1; exact rfl; exact rfl; exact rfl; exact rfl; omega; omega; exact rfl))
         try refine ro_batch (by conv => lhs; whnf) ?_)
      | refine J_block ?_
      | refine J_exit ?_
      | refine J_skip ?_
      | refine J_label ?_
      | refine J_condT' rfl (by with_reducible rfl) ?_
      | refine J_condF' rfl (by with_reducible rfl) ?_)
    exact Keep.out hk) : A := h ⟨k⟩

/-- From code or from inside a region: what is left behind the steps that need no choice, in natural numbers where that can be. -/
theorem go (A : Prop) {B : Prop} (k : B) (h : Keep B → A := by
    intro hk
    repeat ((try refine ro_batch (by conv => lhs; whnf) ?_); first
      | (apply ro_nil)
      | (apply ro_loadArr; exact rfl; exact rfl; (first | with_reducible exact .here | with_reducible exact .there (.here) | with_reducible exact .there (.there (.here)) | with_reducible exact .there (.there (.there (.here))) | with_reducible exact .there (.there (.there (.there (.here)))) | with_reducible exact .there (.there (.there (.there (.there (.here))))) | with_reducible exact .there (.there (.there (.there (.there (.there (.here)))))) | with_reducible exact .there (.there (.there (.there (.there (.there (.there (.here)))))))); omega; exact rfl)
      | (apply ro_loadArrG; exact rfl; exact rfl; (with_reducible assumption); omega; exact rfl)
      | (apply ro_loadV; exact rfl; exact rfl; (with_reducible assumption); omega; exact rfl)
      | (apply ro_load; exact rfl; exact rfl; (first | exact .here | exact .there (.here) | exact .there (.there (.here)) | exact .there (.there (.there (.here))) | exact .there (.there (.there (.there (.here)))) | exact .there (.there (.there (.there (.there (.here))))) | exact .there (.there (.there (.there (.there (.there (.here)))))) | exact .there (.there (.there (.there (.there (.there (.there (.here)))))))); (first | exact rfl | exact blt_of (by assumption) | exact blt_of (by omega)); (first | with_reducible assumption | (conv => lhs; whnf; try dsimp only [RS.wRv, RS.wBuf, RS.wOff, RS.wRem, RS.wSaw, RS.wWin, RS.wRep, RS.wHuf, RS.wCb, RS.wLit, RS.wFs, RS.wScr, RS.wChk, RS.wSeq])); exact rfl)
      | (apply ro_storeArr; exact rfl; exact rfl; (first | with_reducible rfl | exact lit_cast _); exact rfl; (first | with_reducible exact .here | with_reducible exact .there (.here) | with_reducible exact .there (.there (.here)) | with_reducible exact .there (.there (.there (.here))) | with_reducible exact .there (.there (.there (.there (.here)))) | with_reducible exact .there (.there (.there (.there (.there (.here))))) | with_reducible exact .there (.there (.there (.there (.there (.there (.here)))))) | with_reducible exact .there (.there (.there (.there (.there (.there (.there (.here)))))))); omega; assumption)
      | (apply ro_store; exact rfl; (first | with_reducible assumption | conv => lhs; whnf); exact rfl; (first | exact rfl | with_reducible assumption); (first | exact .here | exact .there (.here) | exact .there (.there (.here)) | exact .there (.there (.there (.here))) | exact .there (.there (.there (.there (.here)))) | exact .there (.there (.there (.there (.there (.here))))) | exact .there (.there (.there (.there (.there (.there (.here)))))) | exact .there (.there (.there (.there (.there (.there (.there (.here)))))))); (first | exact rfl | exact blt_of (by assumption) | exact blt_of (by omega)); (first | exact rfl | assumption); assumption)
      | (apply ro_addM; exact rfl; exact rfl; (first | with_reducible rfl | exact lit_cast _); (first | with_reducible rfl | exact lit_cast _); (first | exact lim8 (by omega) | exact lim32 (by omega) | exact limi64 (by omega) | exact lim64 (by omega) | exact lim16 (by omega) | exact limi16 (by omega) | exact limi32 (by omega)); exact rfl)
      | (apply ro_subM; exact rfl; exact rfl; (first | with_reducible rfl | exact lit_cast _); (first | with_reducible rfl | exact lit_cast _); omega; (first | exact lim8 (by omega) | exact lim32 (by omega) | exact limi64 (by omega) | exact lim64 (by omega) | exact lim16 (by omega) | exact limi16 (by omega) | exact limi32 (by omega)); exact rfl)
      | (apply ro_convM; exact rfl; (first | with_reducible rfl | exact lit_cast _); exact rfl; exact rfl; (first | exact lim8 (by omega) | exact lim32 (by omega) | exact limi64 (by omega) | exact lim64 (by omega) | exact lim16 (by omega) | exact limi16 (by omega) | exact limi32 (by omega)); exact rfl)
      | (apply ro_conv8; exact rfl; (first | with_reducible rfl | exact lit_cast _); exact rfl; exact rfl; exact rfl)
      | (apply ro_convU; exact rfl; (first | with_reducible rfl | exact lit_cast _); exact rfl; exact rfl; exact rfl; exact rfl)
      | (apply ro_ix1; exact rfl; exact rfl; (first | with_reducible rfl | exact lit_cast _); exact rfl; exact rfl; omega; exact rfl)
      | (apply ro_ixA1; exact rfl; exact rfl; (first | with_reducible rfl | exact lit_cast _); exact rfl; exact rfl; omega; exact rfl)
      | (apply ro_ixM; exact rfl; exact rfl; (first | with_reducible rfl | exact lit_cast _); exact rfl; exact rfl; omega; exact rfl)
      | (apply ro_ixAM; exact rfl; exact rfl; (first | with_reducible rfl | exact lit_cast _); exact rfl; exact rfl; omega; exact rfl)
      | (apply ro_slB; exact rfl; exact rfl; exact rfl; exact rfl; (first | with_reducible rfl | exact lit_cast _); omega; exact rfl)
      | (apply ro_slA; exact rfl; exact rfl; exact rfl; exact rfl; exact rfl; (first | with_reducible rfl | exact lit_cast _); (first | with_reducible rfl | exact lit_cast _); omega; omega; omega; exact rfl)
      | (apply ro_arrB; exact rfl; exact rfl; exact rfl; exact rfl; (first | with_reducible rfl | exact lit_cast _); omega; exact rfl)
      | (apply ro_arrA; exact rfl; exact rfl; exact rfl; exact rfl; exact rfl; (first | with_reducible rfl | exact lit_cast _); (first | with_reducible rfl | exact lit_cast _); omega; omega; omega; exact rfl)
      | (apply ro_pick (b := true); exact rfl; (first | with_reducible assumption | conv => lhs; whnf); exact rfl)
      | (apply ro_pick (b := false); exact rfl; (first | with_reducible assumption | conv => lhs; whnf); exact rfl)
      | (apply ro_wantG; exact rfl)
      | (apply ro_unwantG; exact rfl; exact rfl)
      | (apply ro_eqIntT; exact rfl; exact rfl; (first | with_reducible rfl | decide); exact rfl)
      | (apply ro_eqIntF; exact rfl; exact rfl; decide; exact rfl)
      | (apply ro_eqBoolT; exact rfl; exact rfl; exact rfl; (first | with_reducible rfl | decide); exact rfl)
      | (apply ro_eqInt; exact rfl; exact rfl; exact rfl)
      | (apply ro_neInt; exact rfl; exact rfl; exact rfl)
      | (apply ro_eqNil; exact rfl; exact rfl; exact rfl; exact rfl)
      | (apply ro_neNil0; exact rfl; exact rfl; exact rfl; exact rfl)
      | (apply ro_neNil1; exact rfl; exact rfl; exact rfl; exact rfl)
      | (apply ro_andZ; exact rfl; exact rfl; (first | with_reducible rfl | exact lit_cast _); (first | with_reducible rfl | exact lit_cast _); (first | exact lim8 (by omega) | exact lim32 (by omega) | exact limi64 (by omega) | exact lim64 (by omega) | exact lim16 (by omega) | exact limi16 (by omega) | exact limi32 (by omega)); (first | exact lim8 (by omega) | exact lim32 (by omega) | exact limi64 (by omega) | exact lim64 (by omega) | exact lim16 (by omega) | exact limi16 (by omega) | exact limi32 (by omega)); (first | exact and_1 _ | exact and_3 _ | exact and_7 _ | exact and_15 _ | exact and_31 _ | exact and_63 _ | exact and_255 _ | exact and_4095 _ | exact and_24 _ | exact rfl); exact rfl)
      | (apply ro_shrM; exact rfl; exact rfl; (first | with_reducible rfl | exact lit_cast _); (first | with_reducible rfl | exact lit_cast _); (first | decide | (simp only [IntKind.bits]; omega)); exact rfl)
      | (apply ro_shlM; exact rfl; exact rfl; (first | with_reducible rfl | exact lit_cast _); (first | with_reducible rfl | exact lit_cast _); (first | decide | (simp only [IntKind.bits]; omega)); (first | exact lim8 (by omega) | exact lim32 (by omega) | exact limi64 (by omega) | exact lim64 (by omega) | exact lim16 (by omega) | exact limi16 (by omega) | exact limi32 (by omega)); exact rfl)
      | (apply ro_mulM; exact rfl; exact rfl; (first | with_reducible rfl | exact lit_cast _); (first | with_reducible rfl | exact lit_cast _); (first | exact lim8 (by omega) | exact lim32 (by omega) | exact limi64 (by omega) | exact lim64 (by omega) | exact lim16 (by omega) | exact limi16 (by omega) | exact limi32 (by omega)); exact rfl)
      | (apply ro_quoM; exact rfl; exact rfl; (first | with_reducible rfl | exact lit_cast _); (first | with_reducible rfl | exact lit_cast _); omega; (first | exact lim8 (by omega) | exact lim32 (by omega) | exact limi64 (by omega) | exact lim64 (by omega) | exact lim16 (by omega) | exact limi16 (by omega) | exact limi32 (by omega)); exact rfl)
      | (apply ro_remM; exact rfl; exact rfl; (first | with_reducible rfl | exact lit_cast _); (first | with_reducible rfl | exact lit_cast _); omega; exact rfl)
      | (apply ro_add; exact rfl; exact rfl; (first | exact IntWalk.i64_in _ (by omega) | exact IntWalk.u32_in _ (by omega) | exact IntWalk.u64_in _ (by omega) | exact IntWalk.u8_in _ (by omega) | exact IntWalk.u16_in _ (by omega)); exact rfl)
      | (apply ro_sub; exact rfl; exact rfl; (first | exact IntWalk.i64_in _ (by omega) | exact IntWalk.u32_in _ (by omega) | exact IntWalk.u64_in _ (by omega) | exact IntWalk.u8_in _ (by omega) | exact IntWalk.u16_in _ (by omega)); exact rfl)
      | (apply ro_conv; exact rfl; exact rfl; exact rfl; (first | exact IntWalk.i64_in _ (by omega) | exact IntWalk.u32_in _ (by omega) | exact IntWalk.u64_in _ (by omega) | exact IntWalk.u8_in _ (by omega) | exact IntWalk.u16_in _ (by omega)); exact rfl)
      | (apply ro_notT; exact rfl; exact rfl)
      | (apply ro_notF; exact rfl; exact rfl)
      | (apply ro_notP; exact rfl; exact rfl)
      | (apply ro_not; exact rfl; exact rfl)
      | (apply ro_move; (first | with_reducible assumption | conv => lhs; whnf); exact rfl)
      | (apply ro_assign; (first | with_reducible assumption | conv => lhs; whnf); exact rfl)
      | (apply ro_makeInterface; (first | with_reducible assumption | conv => lhs; whnf); exact rfl; exact rfl)
      | (apply ro_makeMethod; (first | with_reducible assumption | conv => lhs; whnf); exact rfl)
      | (apply ro_extract; exact rfl; exact rfl; exact rfl)
      | (apply ro_loadG; exact rfl; exact rfl; (first | exact .here | exact .there (.here) | exact .there (.there (.here)) | exact .there (.there (.there (.here))) | exact .there (.there (.there (.there (.here)))) | exact .there (.there (.there (.there (.there (.here))))) | exact .there (.there (.there (.there (.there (.there (.here)))))) | exact .there (.there (.there (.there (.there (.there (.there (.here)))))))); (first | exact rfl | exact blt_of (by assumption) | exact blt_of (by omega)); (first | with_reducible assumption | conv => lhs; whnf); exact rfl)
      | refine J_seq ?_
      | refine J_region (qs := qsT) mixed_ok (by kernel_rfl) ?_
      | refine J_block ?_
      | refine J_exit ?_
      | refine J_skip ?_
      | refine J_label ?_
      | refine J_condT' rfl (by with_reducible rfl) ?_
      | refine J_condF' rfl (by with_reducible rfl) ?_)
    try refine ro_batch (by conv => lhs; whnf) ?_
    exact Keep.out hk) : A := h ⟨k⟩

end Go.Eng
