/-
  WALKS 8: Reset, NewReader.
-/
import Derived.Test.YtogmacnlpclgkaaDoorW7
namespace Go.Proofs.YtogmacnlpclgkaaDoor
open Go Go.Eng
attribute [local irreducible] RO J Trip Quiet

def RS.reset (s : RS) (v : Value) (buf : Value) : RS := { s with rv := v, saw := false, sum := false, one := false, unk := false, rem := 0, buf := buf, off := 0 }
theorem rd_reset (x : Int) (s : RS) (v buf : Value) : ((((((((((rdB x s).st 0 v).st 1 (.bool false)).st 2 (.bool false)).st 3 (.bool false)).st 4 (.bool false)).st 5 (.int .u64 0)).st 6 (.int .i64 0)).st 7 buf).st 8 (.int .i64 0)).obj = (rdB 0 (s.reset v buf)).obj := blk_tab rfl rfl rfl rfl

theorem reset_t (G : Mem) (rb : Nat) (x : Int) (s : RS) (t : TypeId) (rv : Value) (buf' : Value) (hb : (s.buf = .slice none 0 0 ∧ buf' = .slice none 0 0) ∨ ∃ b o l cp, l ≤ cp ∧ s.buf = .slice (some ⟨b, o, none⟩) l cp ∧ buf' = .slice (some ⟨b, o, none⟩) 0 cp) :
    Trip Tryd.prog G 29 #[.pointer (some ⟨rb, 0, none⟩), .iface t rv] [(rb, rdB x s)] (fun _ m => m = [(rb, rdB 0 (s.reset (.iface t rv) buf'))]) := by
  refine Trip_of Tryd.func29 rfl (by show 2 ≤ _; decide) (args := [.pointer (some ⟨rb, 0, none⟩), .iface t rv]) fun c h0 hex => ?_
  rcases hb with ⟨h1, rfl⟩ | ⟨b, o, l, cp, h0l, h1, rfl⟩
  · refine run _ ?_
    refine ro_sliceNil h1 rfl rfl rfl rfl rfl ?_
    refine runO _ ?_
    refine run _ ?_
    exact ends_normalS [] (post := [(rb, rdB 0 _)]) (junk := []) rfl rfl (.cons (rd_reset x s _ _) .nil)
  · refine run _ ?_
    refine ro_slTo 0 h1 rfl rfl rfl (by omega) rfl ?_
    refine runO _ ?_
    refine run _ ?_
    exact ends_normalS [] (post := [(rb, rdB 0 _)]) (junk := []) rfl rfl (.cons (rd_reset x s _ _) .nil)

/-- A new Reader. -/
def RS.zero : RS where
  rv := .nilIface
  saw := false
  sum := false
  one := false
  unk := false
  rem := 0
  buf := .slice none 0 0
  off := 0
  r1 := 0
  r2 := 0
  r3 := 0
  ht := .slice none 0 0
  hb := 0
  wsz := 0
  wd := .slice none 0 0
  wo := 0
  cb := .slice none 0 0
  lit := .slice none 0 0
  st0 := .slice none 0 0
  st1 := .slice none 0 0
  st2 := .slice none 0 0
  sb0 := 0
  sb1 := 0
  sb2 := 0
  tb0 := .slice none 0 0
  tb1 := .slice none 0 0
  tb2 := .slice none 0 0
  scr := fun _ => 0
  fs := .slice none 0 0
  xl := 0
  xv := fun _ => 0
  xb := fun _ => 0
  xc := 0
theorem zRd : zeroL Tryd.prog 90 = some (rdL 0 RS.zero) := by kernel_rfl

theorem newReader_t (G : Mem) (t : TypeId) (rv : Value) : Trip Tryd.prog G 24 #[.iface t rv] [] (fun v m => ∃ rb, v = .pointer (some ⟨rb, 0, none⟩) ∧ m = [(rb, rdB 0 (RS.zero.reset (.iface t rv) (.slice none 0 0)))]) := by
  refine Trip_of Tryd.func24 rfl (by show 1 ≤ _; decide) (args := [.iface t rv]) fun c h0 hex => ?_
  refine run _ ?_
  refine ro_alloc zRd rfl hex fun rb hrb => ?_
  refine runO _ ?_
  refine run _ ?_
  refine ro_callT (reset_t G rb 0 RS.zero t rv (.slice none 0 0) (.inl ⟨rfl, rfl⟩)) ?_
  rintro v m rfl
  refine runO _ ?_
  refine run _ ?_
  refine J_ret ?_
  exact ends_retS [2] ⟨rb, rfl, rfl⟩
end Go.Proofs.YtogmacnlpclgkaaDoor
