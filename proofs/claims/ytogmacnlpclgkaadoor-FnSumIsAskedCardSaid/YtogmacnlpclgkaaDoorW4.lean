/-
  WALKS 4: THE READER'S STATE; xxhash64.reset, window.reset.
-/
import Derived.Test.YtogmacnlpclgkaaDoorW3
namespace Go.Proofs.YtogmacnlpclgkaaDoor
open Go Go.Eng
attribute [local irreducible] RO J Trip Quiet

/-- What a Reader holds (its block offset, of which nothing but errors' texts hangs, stands beside). -/
structure RS where
  rv : Value
  saw : Bool
  sum : Bool
  one : Bool
  unk : Bool
  rem : Nat
  buf : Value
  off : Nat
  r1 : Nat
  r2 : Nat
  r3 : Nat
  ht : Value
  hb : Nat
  wsz : Nat
  wd : Value
  wo : Nat
  cb : Value
  lit : Value
  st0 : Value
  st1 : Value
  st2 : Value
  sb0 : Nat
  sb1 : Nat
  sb2 : Nat
  tb0 : Value
  tb1 : Value
  tb2 : Value
  scr : Nat → Nat
  fs : Value
  xl : Nat
  xv : Nat → Nat
  xb : Nat → Nat
  xc : Nat

def u8s (x : Nat → Nat) : Nat → Nat → List Value
  | _, 0 => []
  | i, n + 1 => .int .u8 (x i) :: u8s x (i + 1) n
def rdL (x : Int) (s : RS) : List Value :=
  [s.rv, .bool s.saw, .bool s.sum, .bool s.one, .bool s.unk, .int .u64 s.rem, .int .i64 x, s.buf, .int .i64 s.off, .int .u32 s.r1, .int .u32 s.r2, .int .u32 s.r3, s.ht, .int .i64 s.hb, .int .i64 s.wsz, s.wd, .int .i64 s.wo, s.cb, s.lit,
   s.st0, s.st1, s.st2, .int .u8 s.sb0, .int .u8 s.sb1, .int .u8 s.sb2, s.tb0, s.tb1, s.tb2,
   .int .u8 (s.scr 0), .int .u8 (s.scr 1), .int .u8 (s.scr 2), .int .u8 (s.scr 3), .int .u8 (s.scr 4), .int .u8 (s.scr 5), .int .u8 (s.scr 6), .int .u8 (s.scr 7), .int .u8 (s.scr 8), .int .u8 (s.scr 9), .int .u8 (s.scr 10), .int .u8 (s.scr 11), .int .u8 (s.scr 12), .int .u8 (s.scr 13), .int .u8 (s.scr 14), .int .u8 (s.scr 15),
   s.fs, .int .u64 s.xl, .int .u64 (s.xv 0), .int .u64 (s.xv 1), .int .u64 (s.xv 2), .int .u64 (s.xv 3),
   .int .u8 (s.xb 0), .int .u8 (s.xb 1), .int .u8 (s.xb 2), .int .u8 (s.xb 3), .int .u8 (s.xb 4), .int .u8 (s.xb 5), .int .u8 (s.xb 6), .int .u8 (s.xb 7), .int .u8 (s.xb 8), .int .u8 (s.xb 9), .int .u8 (s.xb 10), .int .u8 (s.xb 11), .int .u8 (s.xb 12), .int .u8 (s.xb 13), .int .u8 (s.xb 14), .int .u8 (s.xb 15),
   .int .u8 (s.xb 16), .int .u8 (s.xb 17), .int .u8 (s.xb 18), .int .u8 (s.xb 19), .int .u8 (s.xb 20), .int .u8 (s.xb 21), .int .u8 (s.xb 22), .int .u8 (s.xb 23), .int .u8 (s.xb 24), .int .u8 (s.xb 25), .int .u8 (s.xb 26), .int .u8 (s.xb 27), .int .u8 (s.xb 28), .int .u8 (s.xb 29), .int .u8 (s.xb 30), .int .u8 (s.xb 31),
   .int .i64 s.xc]
def rdB (x : Int) (s : RS) : Blk := ⟨83, listG (rdL x s), 90, (0, 0)⟩

abbrev RS.wRv (s : RS) (v : Value) : RS := { s with rv := v }
abbrev RS.wBuf (s : RS) (v : Value) : RS := { s with buf := v }
abbrev RS.wOff (s : RS) (o : Nat) : RS := { s with off := o }
abbrev RS.wRem (s : RS) (n : Nat) : RS := { s with rem := n }
abbrev RS.wSaw (s : RS) (b : Bool) : RS := { s with saw := b }
abbrev RS.wWin (s : RS) (z : Nat) (v : Value) (o : Nat) : RS := { s with wsz := z, wd := v, wo := o }
abbrev RS.wRep (s : RS) (a b c : Nat) : RS := { s with r1 := a, r2 := b, r3 := c }
abbrev RS.wHuf (s : RS) (v : Value) (n : Nat) : RS := { s with ht := v, hb := n }
abbrev RS.wCb (s : RS) (v : Value) : RS := { s with cb := v }
abbrev RS.wLit (s : RS) (v : Value) : RS := { s with lit := v }
abbrev RS.wFs (s : RS) (v : Value) : RS := { s with fs := v }
abbrev RS.wScr (s : RS) (f : Nat → Nat) : RS := { s with scr := f }
abbrev RS.wChk (s : RS) (l : Nat) (v b : Nat → Nat) (n : Nat) : RS := { s with xl := l, xv := v, xb := b, xc := n }
abbrev RS.wSeq (s : RS) (a0 a1 a2 : Value) (b0 b1 b2 : Nat) (c0 c1 c2 : Value) : RS := { s with st0 := a0, st1 := a1, st2 := a2, sb0 := b0, sb1 := b1, sb2 := b2, tb0 := c0, tb1 := c1, tb2 := c2 }
theorem RS.wBuf_self (s : RS) : s.wBuf s.buf = s := rfl
theorem RS.wWin_self (s : RS) : s.wWin s.wsz s.wd s.wo = s := rfl
theorem RS.wOff_self (s : RS) : s.wOff s.off = s := rfl
theorem RS.wRv_self (s : RS) : s.wRv s.rv = s := rfl

def RS.xreset (s : RS) : RS := { s with xl := 0, xv := fun i => [6983438078262162902, 14029467366897019727, 0, 7046029288634856825].getD i 0, xb := fun _ => 0, xc := 0 }

theorem xreset_t (G : Mem) (rb : Nat) (x : Int) (s : RS) : Trip Tryd.prog G 42 #[.pointer (some ⟨rb, 45, none⟩)] [(rb, rdB x s)] (fun v m => m = [(rb, rdB x s.xreset)]) := by
  refine Trip_of Tryd.func42 rfl (by show 1 ≤ _; decide) (args := [.pointer (some ⟨rb, 45, none⟩)]) fun c h0 hex => ?_
  refine run _ ?_
  refine ro_bin (op := .add) (v := .int .u64 6983438078262162902) rfl rfl rfl rfl ?_
  refine runO _ ?_
  refine run _ ?_
  refine ro_neg rfl rfl ?_
  refine runO _ ?_
  refine run _ ?_
  refine ro_arrTo 32 rfl rfl rfl rfl (by omega) rfl ?_
  refine runO _ ?_
  refine ro_clear1 (z := .int .u8 0) rfl rfl rfl rfl z5 rfl .here rfl (by show _ ≤ 83; decide) hex rfl ?_
  refine runO _ ?_
  refine run _ ?_
  exact ends_normalS [] (post := [(rb, rdB x s.xreset)]) (junk := []) rfl rfl (.cons (blk_tab rfl rfl rfl rfl) .nil)

theorem wreset_t (G : Mem) (rb : Nat) (x : Int) (s : RS) (size len : Nat) (cl : Nat → Value) (wm : Mem) (hw : SlM 1 s.wd len cl wm) (hs : size ≤ 2 ^ 30) :
    Trip Tryd.prog G 45 #[.pointer (some ⟨rb, 14, none⟩), .int .i64 size] ((rb, rdB x s) :: wm) (fun _ m => ∃ wd' wm', SlM 1 wd' 0 (fun _ => undef) wm' ∧ m = (rb, rdB x { s with wsz := size, wd := wd', wo := 0 }) :: wm') := by
  refine Trip_of Tryd.func45 rfl (by show 2 ≤ _; decide) (args := [.pointer (some ⟨rb, 14, none⟩), .int .i64 size]) fun c h0 hex => ?_
  rcases hw with ⟨hv, rfl, rfl⟩ | ⟨b, o, cap, B, hv, rfl, hf, ho, hlc, hcl⟩
  · refine run _ ?_
    refine ro_sliceNil hv rfl rfl rfl rfl rfl ?_
    refine runO _ ?_
    refine run _ ?_
    refine J_condP rfl (fun hlt => ?_) (fun hge => ?_)
    · refine run _ ?_
      refine ro_make (len := 0) (cap := size) rfl rfl rfl rfl z5 (by decide) (by omega) (by omega) hex rfl fun b' hb' => ?_
      refine runO _ ?_
      refine run _ ?_
      exact ends_normalS [] (post := [(rb, rdB x { s with wsz := size, wd := .slice (some ⟨b', 0, none⟩) 0 size, wo := 0 }), (b', _)]) (junk := [])
        ⟨_, [(b', _)], .inr ⟨b', 0, size, _, rfl, rfl, rfl, by simp, by omega, fun i hi => by omega⟩, rfl⟩ rfl
        ((MEqv.of_perm (List.Perm.swap _ _ _)).trans (.cons (blk_tab rfl rfl rfl rfl) (.refl _)))
    · have h0s : size = 0 := by omega
      subst h0s
      refine run _ ?_
      exact ends_normalS [] (post := [(rb, rdB x { s with wsz := 0, wd := .slice none 0 0, wo := 0 })]) (junk := [])
        ⟨_, [], .inl ⟨rfl, rfl, rfl⟩, rfl⟩ rfl (.cons (blk_tab rfl rfl rfl rfl) (.refl _))
  · refine run _ ?_
    refine ro_slTo 0 hv rfl rfl rfl (by omega) rfl ?_
    refine runO _ ?_
    refine run _ ?_
    refine J_condP rfl (fun hlt => ?_) (fun hge => ?_)
    · refine run _ ?_
      refine ro_make (len := 0) (cap := size) rfl rfl rfl rfl z5 (by decide) (by omega) (by omega) hex rfl fun b' hb' => ?_
      refine runO _ ?_
      refine run _ ?_
      exact ends_normalS [] (post := [(rb, rdB x { s with wsz := size, wd := .slice (some ⟨b', 0, none⟩) 0 size, wo := 0 }), (b', _)]) (junk := [(b, B)])
        ⟨_, [(b', _)], .inr ⟨b', 0, size, _, rfl, rfl, rfl, by simp, by omega, fun i hi => by omega⟩, rfl⟩ rfl
        ((MEqv.of_perm (List.Perm.swap _ _ _)).trans (.cons (blk_tab rfl rfl rfl rfl) (.refl _)))
    · refine run _ ?_
      exact ends_normalS [] (post := [(rb, rdB x { s with wsz := size, wd := .slice (some ⟨b, o, none⟩) 0 cap, wo := 0 }), (b, B)]) (junk := [])
        ⟨_, [(b, B)], .inr ⟨b, o, cap, B, rfl, rfl, hf, ho, by omega, fun i hi => by omega⟩, rfl⟩ rfl
        (.cons (blk_tab rfl rfl rfl rfl) (.refl _))
end Go.Proofs.YtogmacnlpclgkaaDoor
