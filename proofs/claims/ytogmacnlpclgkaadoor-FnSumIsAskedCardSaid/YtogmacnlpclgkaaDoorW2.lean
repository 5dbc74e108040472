/-
  WALKS 2: NUMBERS OUT OF BYTES.
-/
import Derived.Test.YtogmacnlpclgkaaDoorW1
namespace Go.Proofs.YtogmacnlpclgkaaDoor
open Go Go.Eng
attribute [local irreducible] RO J Trip Quiet

/-- A text: so many bytes from a place of a block on. -/
structure Text (M : Mem) (b o len : Nat) (x : Nat → Nat) (B : Blk) : Prop where
  mem : (b, B) ∈ M
  fits : o + len ≤ B.n
  get : ∀ i, i < len → B.g (o + i) = .int .u8 (x i)
  byte : ∀ i, x i < 256

def le2 (x : Nat → Nat) : Nat := x 0 + x 1 * 256
def le4 (x : Nat → Nat) : Nat := x 0 + x 1 * 256 + x 2 * 65536 + x 3 * 16777216
def le8 (x : Nat → Nat) : Nat := le4 x + le4 (fun i => x (i + 4)) * 4294967296

theorem le32_q (G m : Mem) (b o len cap : Nat) (B : Blk) (x : Nat → Nat) (hx : Text (m ++ G) b o 4 x B) (h4 : 4 ≤ len) :
    Quiet Tryd.prog G 38 #[.slice (some ⟨b, o, none⟩) len cap] m (.int .u32 (le4 x)) := by
  refine Quiet_of Tryd.func38 rfl (by show 1 ≤ _; decide) (args := [.slice (some ⟨b, o, none⟩) len cap]) fun c h0 => ?_
  have b0 := hx.byte 0; have b1 := hx.byte 1; have b2 := hx.byte 2; have b3 := hx.byte 3
  have hf := hx.fits
  refine run _ ?_
  refine ro_loadA rfl rfl (by simpa using hx.mem) (by omega) (hx.get 0 (by omega)) rfl ?_
  refine runO _ ?_
  refine ro_loadA rfl rfl (by simpa using hx.mem) (by omega) (hx.get 1 (by omega)) rfl ?_
  refine runO _ ?_
  refine ro_orA 8 rfl rfl (by omega) (by omega) (by omega) (by omega) rfl (by show _ < (2:Int)^32; omega) rfl ?_
  refine runO _ ?_
  refine ro_loadA rfl rfl (by simpa using hx.mem) (by omega) (hx.get 2 (by omega)) rfl ?_
  refine runO _ ?_
  refine ro_orA 16 rfl rfl (by omega) (by omega) (by omega) (by omega) rfl (by show _ < (2:Int)^32; omega) rfl ?_
  refine runO _ ?_
  refine ro_loadA rfl rfl (by simpa using hx.mem) (by omega) (hx.get 3 (by omega)) rfl ?_
  refine runO _ ?_
  refine ro_orA 24 rfl rfl (by omega) (by omega) (by omega) (by omega) rfl (by show _ < (2:Int)^32; omega) rfl ?_
  refine runO _ ?_
  refine run _ ?_
  refine J_ret ?_
  exact ends_ret [2] rfl (post := []) (junk := []) (.refl _) (by simp [retV, le4]; rfl)

theorem le16_q (G m : Mem) (b o len cap : Nat) (B : Blk) (x : Nat → Nat) (hx : Text (m ++ G) b o 2 x B) (h4 : 2 ≤ len) :
    Quiet Tryd.prog G 43 #[.slice (some ⟨b, o, none⟩) len cap] m (.int .u16 (le2 x)) := by
  refine Quiet_of Tryd.func43 rfl (by show 1 ≤ _; decide) (args := [.slice (some ⟨b, o, none⟩) len cap]) fun c h0 => ?_
  have b0 := hx.byte 0; have b1 := hx.byte 1
  have hf := hx.fits
  refine run _ ?_
  refine ro_loadA rfl rfl (by simpa using hx.mem) (by omega) (hx.get 0 (by omega)) rfl ?_
  refine runO _ ?_
  refine ro_loadA rfl rfl (by simpa using hx.mem) (by omega) (hx.get 1 (by omega)) rfl ?_
  refine runO _ ?_
  refine ro_orA 8 rfl rfl (by omega) (by omega) (by omega) (by omega) rfl (by show _ < (2:Int)^16; omega) rfl ?_
  refine runO _ ?_
  refine run _ ?_
  refine J_ret ?_
  exact ends_ret [2] rfl (post := []) (junk := []) (.refl _) (by simp [retV, le2]; rfl)

theorem le4_lt (x : Nat → Nat) (h : ∀ i, x i < 256) : le4 x < 4294967296 := by
  have b0 := h 0; have b1 := h 1; have b2 := h 2; have b3 := h 3
  unfold le4; omega

theorem le64_q (G m : Mem) (b o len cap : Nat) (B : Blk) (x : Nat → Nat) (hx : Text (m ++ G) b o 8 x B) (h4 : 8 ≤ len) (hc : len ≤ cap) :
    Quiet Tryd.prog G 44 #[.slice (some ⟨b, o, none⟩) len cap] m (.int .u64 (le8 x)) := by
  refine Quiet_of Tryd.func44 rfl (by show 1 ≤ _; decide) (args := [.slice (some ⟨b, o, none⟩) len cap]) fun c h0 => ?_
  have l0 := le4_lt x hx.byte
  have l1 := le4_lt (fun i => x (i + 4)) (fun i => hx.byte _)
  have hf := hx.fits
  refine run _ ?_
  refine ro_callQT (le32_q (m ++ G) [] b o len cap B x ⟨by simpa using hx.mem, by omega, fun i hi => hx.get i (by omega), hx.byte⟩ (by omega)) ?_
  refine runO _ ?_
  refine ro_slice rfl rfl rfl rfl rfl (by omega) (by omega) (by omega) rfl ?_
  refine runO _ ?_
  have e1 : sOff o (4 : Int).toNat (0 + 1) cap = o + 4 := by simp [sOff]; omega
  refine ro_callQT (vs := [.slice (some ⟨b, sOff o (4 : Int).toNat (0 + 1) cap, none⟩) ((len : Int).toNat - (4 : Int).toNat) (cap - (4 : Int).toNat)]) (by rw [e1]; exact le32_q (m ++ G) [] b (o + 4) _ _ B (fun i => x (i + 4)) ⟨by simpa using hx.mem, by omega, fun i hi => by rw [Nat.add_assoc, Nat.add_comm 4 i]; exact hx.get (i + 4) (by omega), fun i => hx.byte _⟩ (by simp; omega)) ?_
  refine runO _ ?_
  refine ro_orA 32 rfl rfl (by omega) (by omega) (by omega) (by omega) rfl (by show _ < (2:Int)^64; omega) rfl ?_
  refine runO _ ?_
  refine run _ ?_
  refine J_ret ?_
  exact ends_ret [2] rfl (post := []) (junk := []) (.refl _) (by simp [retV, le8]; rfl)
end Go.Proofs.YtogmacnlpclgkaaDoor
