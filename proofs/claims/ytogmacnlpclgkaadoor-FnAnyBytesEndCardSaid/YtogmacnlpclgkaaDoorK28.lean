/-
  TEXTS MERGED: C9, C10.
-/
import Derived.Test.YtogmacnlpclgkaaDoorK27
import Derived.Test.YtogmacnlpclgkaaDoorK12
/-! COMPRESSED BLOCKS 9: one stream of literals. -/
namespace Go.Proofs.YtogmacnlpclgkaaDoor
open Go Go.Eng Go.Pz
attribute [local irreducible] RO J Trip Quiet
set_option maxRecDepth 20000
variable {G : Mem} {d : Nat → Nat}

theorem rvV_all {d : Nat → Nat} {a b : Nat} (h : b ≤ 25) : rvV d a b = bitsAt d (a - b) b := by
  unfold rvV
  rw [Nat.min_eq_left (by omega)]

/-- What a table must be like. -/
structure HtB (hb : Nat) (ht : Nat → Nat) : Prop where
  b1 : 1 ≤ hb
  b11 : hb ≤ 11
  le : ∀ p, p < 2 ^ hb → ht p % 256 ≤ hb
  sym : ∀ p, p < 2 ^ hb → ht p / 256 < 256

theorem hpl_le (ht : Nat → Nat) (hb : Nat) (d : Nat → Nat) (a : Nat) : ∀ i, hpl ht hb d a i ≤ a
  | 0 => Nat.le_refl _
  | i + 1 => by have := hpl_le ht hb d a i; rw [hpl]; omega
theorem hok_next {ht : Nat → Nat} {hb : Nat} {d : Nat → Nat} {st a i : Nat} (h : hok ht hb d st a i) (h1 : 8 * st + hb ≤ hpl ht hb d a i) : hok ht hb d st a (i + 1) := fun j hj => by
  by_cases he : j = i
  · rw [he]; exact h1
  · exact h j (by omega)

/-- What readers of streams give. -/
def StrR (S : Sent G) (rb tb : Nat) (x : Int) (s : RS) (ht : Nat → Nat) (sm : Mem) (K : Nat) (R : Option (Nat → Nat)) (r : Value) (m : Mem) : Prop :=
  match R with
  | some L => ∃ v' sm' jk', r = .tuple #[v', .nilIface] ∧ LtM v' K L sm' ∧ Kp sm (sm' ++ jk') ∧ m = (rb, rdB x s) :: (tb, arrB .u16 2048 ht 104) :: (sm' ++ jk')
  | none => ∃ e sm', r = .tuple #[.slice none 0 0, e] ∧ ErrV S .z e ∧ Kp sm sm' ∧ m = (rb, rdB x s) :: (tb, arrB .u16 2048 ht 104) :: sm'

structure OneS where
  i : Nat
  oa : Option Addr
  cp : Nat
  sm : Mem
  jk : Mem
  k : Nat
  B : Nat

set_option maxHeartbeats 2000000 in
theorem one_t (S : Sent G) (rb tb : Nat) (x : Int) (s : RS) (da : Option Addr) (n cp : Nat) (hd : ∀ i, d i < 256) (hv : View G da n cp d) (hn : n ≤ 2 ^ 20) (hb : Nat) (ht : Nat → Nat) (hH : HtB hb ht) (off cs K : Nat) (ho2 : 2 ≤ off) (hoc : off + cs ≤ n) (hK : K ≤ 131072) (va : Option Addr) (vc : Nat) (D : Nat → Nat) (sm : Mem) (hl : LtM (.slice va 0 vc) 0 D sm) :
    Trip Tryd.prog G 71 #[.pointer (some ⟨rb, 0, none⟩), .slice da n cp, .int .i64 (off : Nat), .int .i64 (cs : Nat), .int .i64 (K : Nat), .slice va 0 vc] ((rb, rdB x (s.wHuf (.slice (some ⟨tb, 0, none⟩) 2048 2048) hb)) :: (tb, arrB .u16 2048 ht 104) :: sm) (StrR S rb tb x (s.wHuf (.slice (some ⟨tb, 0, none⟩) 2048 2048) hb) ht sm K (lit1 ht hb d off cs K)) := by
  refine Trip_of Tryd.func71 rfl (by show 6 ≤ _; decide) (args := [.pointer (some ⟨rb, 0, none⟩), .slice da n cp, .int .i64 (off : Nat), .int .i64 (cs : Nat), .int .i64 (K : Nat), .slice va 0 vc]) fun c h0 hex => ?_
  have hb1 := hH.b1
  have hb11 := hH.b11
  have hp11 : 2 ^ hb ≤ 2 ^ 11 := Nat.pow_le_pow_right (by omega) hb11
  have hp1 : 1 ≤ 2 ^ hb := Nat.one_le_two_pow
  obtain ⟨b0, o0, rfl⟩ := hv.some (by omega)
  refine go _ ?_
  refine ro_callT (mkrv_t S rb x (s.wHuf (.slice (some ⟨tb, 0, none⟩) 2048 2048) hb) _ n cp hd hv hn (off + cs - 1) (off - 2) (by omega) (by omega)) ?_
  rintro v m ⟨rfl, hv2⟩
  unfold lit1
  obtain ⟨o, ho⟩ : ∃ o, o = off + cs - 1 := ⟨_, rfl⟩
  rw [← ho] at hv2 ⊢
  by_cases hz : d o = 0
  · rw [if_pos hz] at hv2 ⊢
    obtain ⟨e, rfl, ⟨b', rfl⟩⟩ := hv2
    refine go _ ?_
    refine ro_alloc z137 rfl hex fun vb hvb => ?_
    refine go _ ?_
    refine ro_storeAgg (s := 5) (vs := [.pointer none, .slice none 0 0, .int .u32 0, .int .u32 0, .int .u32 0, .int .u32 0]) rfl rfl rfl rfl (fun v hv => by simp only [List.mem_cons, List.not_mem_nil, or_false] at hv; rcases hv with rfl | rfl | rfl | rfl | rfl | rfl <;> rfl) .here (Nat.le_refl 6) rfl hex ?_
    refine go _ ?_
    refine J_ret ?_
    exact ends_retS [12, 13] (post := (rb, rdB x (s.wHuf (.slice (some ⟨tb, 0, none⟩) 2048 2048) hb)) :: (tb, arrB .u16 2048 ht 104) :: sm) (junk := [(vb, _)]) ⟨_, sm, rfl, ⟨b', rfl⟩, Kp.refl _, rfl⟩ rfl (.of_perm (List.perm_append_comm (l₁ := [_]) (l₂ := _ :: _ :: sm)))
  · rw [if_neg hz] at hv2 ⊢
    subst hv2
    obtain ⟨i1, i2, i3⟩ := RvOk.init (d := d) hd hz
    obtain ⟨st, hst⟩ : ∃ st, st = off - 2 := ⟨_, rfl⟩
    rw [← hst]
    refine go _ ?_
    refine ro_alloc z137 rfl hex fun vb hvb => ?_
    refine go _ ?_
    refine ro_storeAgg (s := 5) (vs := [.pointer (some ⟨rb, 0, none⟩), .slice (some ⟨b0, o0, none⟩) n cp, .int .u32 (o : Nat), .int .u32 (st : Nat), .int .u32 (d o : Nat), .int .u32 (Nat.log2 (d o) : Nat)]) rfl rfl rfl rfl (fun v hv => by simp only [List.mem_cons, List.not_mem_nil, or_false] at hv; rcases hv with rfl | rfl | rfl | rfl | rfl | rfl <;> rfl) .here (Nat.le_refl 6) rfl hex ?_
    obtain ⟨a, ha⟩ : ∃ a, a = rvA d o := ⟨_, rfl⟩
    have ha' : a = 8 * o + Nat.log2 (d o) := ha
    rw [← ha'] at i1 i2 i3
    rw [← ha]
    refine go _ ?_
    refine J_loopL (σ := OneS) [4, 14, 16, 17, 18] (fun t => [(5, .slice t.oa t.i t.cp), (19, .int .i64 (t.i : Nat))]) (fun t => (vb, rvB rb (some ⟨b0, o0, none⟩) n cp ((hpl ht hb d a t.i - t.k) / 8) st t.B t.k) :: (rb, rdB x (s.wHuf (.slice (some ⟨tb, 0, none⟩) 2048 2048) hb)) :: (tb, arrB .u16 2048 ht 104) :: (t.sm ++ t.jk))
      (fun t => t.i ≤ K ∧ LtM (.slice t.oa t.i t.cp) t.i (hsy ht hb d a) t.sm ∧ Kp sm (t.sm ++ t.jk) ∧ RvOk d (hpl ht hb d a t.i) t.k t.B ∧ t.k ≤ hb + 7 ∧ (hpl ht hb d a t.i - t.k) / 8 ≤ n ∧ st ≤ (hpl ht hb d a t.i - t.k) / 8 ∧ hok ht hb d st a t.i) (fun t => K - t.i) ⟨0, va, vc, sm, [], a % 8, d o⟩ ?_ ⟨Nat.zero_le _, hl.congr fun i hi => absurd hi (Nat.not_lt_zero _), by rw [List.append_nil]; exact Kp.refl _, i1, by dsimp only; omega, ?_, ?_, fun i hi => absurd hi (Nat.not_lt_zero _)⟩ ?_
    · rw [List.append_nil]
      refine .cons ?_ (.refl _)
      dsimp only
      rw [show hpl ht hb d a 0 = a from rfl, i2, show (a - Nat.log2 (d o)) / 8 = o by omega]
      exact blk_tab rfl rfl rfl rfl
    · show (a - a % 8) / 8 ≤ n
      omega
    · show st ≤ (a - a % 8) / 8
      omega
    rintro ⟨i, oa, oc, sm1, jk1, k, B⟩ f ⟨k1, k2, k3, k4, k5, k6, k7, k8⟩
    dsimp only at k1 k2 k3 k4 k5 k6 k7 k8 ⊢
    obtain ⟨y, hy⟩ : ∃ y, y = hpl ht hb d a i := ⟨_, rfl⟩
    have hs1 : hpl ht hb d a (i + 1) = y - hent ht hb d y % 256 := by rw [hpl, ← hy]
    have hsy1 : hsy ht hb d a i = hent ht hb d y / 256 := by unfold hsy; rw [← hy]
    rw [← hy] at k4 k6 k7 ⊢
    have hal := k4.al
    have hle := k4.le
    refine go _ ?_
    refine J_condP rfl (fun hlt => ?_) (fun hge => ?_)
    · have hya := hpl_le ht hb d a i
      rw [← hy] at hya
      have hlog : Nat.log2 (d o) < 8 := (Nat.log2_lt hz).2 (hd o)
      refine go _ ?_
      refine ro_callT (fetch_t (G := G) vb rb _ n cp hd hv hn y k B st hb k4 (by omega) k6 (by omega) (by omega)) ?_
      rintro v m (⟨h1, rfl, k', B', h2, h3, h4, h6, rfl⟩ | ⟨h1, rfl, of, B', k', h2, rfl⟩) <;> rw [List.cons_append, List.nil_append]
      · have hal' := h4.al
        have hle' := h4.le
        have hlt' := h4.lt
        have hval := rvV_of h4 h2 (by omega)
        rw [rvV_all (by omega)] at hval
        have hdv : B' / 2 ^ (k' - hb) ≤ B' := Nat.div_le_self _ _
        have hix : B' / 2 ^ (k' - hb) &&& 1 * 2 ^ hb - 1 = bitsAt d (y - hb) hb := by rw [Nat.one_mul, Nat.and_two_pow_sub_one_eq_mod, hval]
        have hxl := bitsAt_lt d hb (y - hb)
        obtain ⟨ix, hixe⟩ : ∃ ix, ix = bitsAt d (y - hb) hb := ⟨_, rfl⟩
        have hent' : hent ht hb d y = ht ix := by unfold hent; rw [← hixe]
        rw [← hixe] at hix hxl
        have e1 := hH.le ix hxl
        have e2 := hH.sym ix hxl
        obtain ⟨e, he⟩ : ∃ e, e = ht ix := ⟨_, rfl⟩
        rw [← he] at hent' e1 e2
        rw [hent'] at hs1 hsy1
        refine go _ ?_
        rw [hix]
        refine go _ ?_
        rw [show ht (0 + ix) = e by rw [Nat.zero_add, he]]
        refine go _ ?_
        rw [show e / 2 ^ 8 = e / 256 from rfl]
        refine go _ ?_
        refine ro_buildSlice1 (z := .int .u8 0) (vs := [.int .u8 ((e / 256 % 256 : Nat) : Int)]) rfl rfl z5 rfl rfl rfl rfl hex fun ub hub => ?_
        refine go _ ?_
        refine ro_appL (fm := [(vb, rvB rb (some ⟨b0, o0, none⟩) n cp ((y - k') / 8) st B' k'), (rb, rdB x (s.wHuf (.slice (some ⟨tb, 0, none⟩) 2048 2048) hb)), (tb, arrB .u16 2048 ht 104)]) (sm := sm1) (jk := (ub, listB [.int .u8 ((e / 256 % 256 : Nat) : Int)] 5) :: jk1) (s := fun _ => e / 256) (src := fun j => (listB [.int .u8 ((e / 256 % 256 : Nat) : Int)] 5).g (0 + j)) (k := 1) rfl rfl rfl rfl z5 (by decide) rfl rfl k2
          (pU _ [_, _, _] sm1 jk1) (Src.of (B := listB [.int .u8 ((e / 256 % 256 : Nat) : Int)] 5) (by simp) (by show 0 + 1 * 1 ≤ 1; decide)) (fun j hj => by rw [show j = 0 by omega]; show Value.int .u8 ((e / 256 % 256 : Nat) : Int) = _; rw [Nat.mod_eq_of_lt e2]) (by omega) hex rfl ?_
        · intro w' sm2 jk2 hw' ho' hk'
          obtain ⟨oa', oc', rfl⟩ := hw'.form
          refine go _ ?_
          refine ⟨⟨i + 1, oa', oc', sm2, jk2, k' - e % 256, B'⟩, by dsimp only; omega, ⟨by dsimp only; omega, hw'.congr fun j hj => ?_, ?_, ?_, ?_, ?_, ?_, ?_⟩, ⟨rfl, rfl, rfl, rfl, rfl, rfl, rfl, trivial⟩, ?_⟩
          · unfold catD
            by_cases hji : j < i
            · rw [if_pos hji]
            · rw [if_neg hji, show j = i by omega, hsy1]
          · exact k3.more.trans hk'
          · dsimp only
            rw [hs1]
            exact h4.less (by omega)
          · dsimp only; omega
          · dsimp only
            rw [hs1]; omega
          · dsimp only
            rw [hs1]; omega
          · exact hok_next k8 (by rw [← hy]; omega)
          · dsimp only
            rw [hs1]
            refine .cons ((rv_5 rb _ n cp _ _ _ _ _).trans ?_) (.refl _)
            rw [show y - e % 256 - (k' - e % 256) = y - k' by omega]
      · have hnok : ¬ hok ht hb d st a K := fun h => by
          have := h i (by omega)
          rw [← hy] at this
          exact h1 (.inr this)
        rw [if_neg hnok]
        refine go _ ?_
        refine ro_callT (rvErr_t S vb rb x (s.wHuf (.slice (some ⟨tb, 0, none⟩) 2048 2048) hb) _ n cp of st _ _ h2 _) ?_
        rintro v m ⟨⟨b', rfl⟩, rfl⟩
        refine go _ ?_
        refine J_ret ?_
        exact ends_retS [12, 13] (post := (rb, rdB x (s.wHuf (.slice (some ⟨tb, 0, none⟩) 2048 2048) hb)) :: (tb, arrB .u16 2048 ht 104) :: (sm1 ++ jk1)) (junk := [(vb, _)]) ⟨_, sm1 ++ jk1, rfl, ⟨b', rfl⟩, k3, rfl⟩ rfl (.of_perm (List.perm_append_comm (l₁ := [_]) (l₂ := _ :: _ :: (sm1 ++ jk1))))
    · obtain rfl : i = K := by omega
      rw [if_pos k8]
      refine go _ ?_
      refine J_ret ?_
      exact ends_retS [12, 13] (post := (rb, rdB x (s.wHuf (.slice (some ⟨tb, 0, none⟩) 2048 2048) hb)) :: (tb, arrB .u16 2048 ht 104) :: (sm1 ++ jk1)) (junk := [(vb, _)]) ⟨_, sm1, jk1, rfl, k2, k3, rfl⟩ rfl (.of_perm (List.perm_append_comm (l₁ := [_]) (l₂ := _ :: _ :: (sm1 ++ jk1))))
end Go.Proofs.YtogmacnlpclgkaaDoor

/-! COMPRESSED BLOCKS 10: four streams of literals: the reader of one entry. -/
namespace Go.Proofs.YtogmacnlpclgkaaDoor
open Go Go.Eng Go.Pz
attribute [local irreducible] RO J Trip Quiet
set_option maxRecDepth 20000
variable {G : Mem} {d : Nat → Nat}

theorem le16_v {m : Mem} {oa : Option Addr} {n cp : Nat} {x : Nat → Nat} (hv : View (m ++ G) oa n cp x) (hb : ∀ i, x i < 256) (h : 2 ≤ n) : Quiet Tryd.prog G 43 #[.slice oa n cp] m (.int .u16 (le2 x)) := by
  obtain ⟨hle, hc⟩ := hv
  rcases hc with ⟨_, h0, _⟩ | ⟨b, o, B, rfl, hm, hf, hg⟩
  · omega
  · exact le16_q G m b o n cp B x ⟨hm, by have := hf (by omega); omega, fun i hi => hg i (by omega), hb⟩ h

/-- A reader behind i symbols. -/
structure RvI (d : Nat → Nat) (n : Nat) (ht : Nat → Nat) (hb st a i k B : Nat) : Prop where
  ok : RvOk d (hpl ht hb d a i) k B
  k7 : k ≤ hb + 7
  on : (hpl ht hb d a i - k) / 8 ≤ n
  ge : st ≤ (hpl ht hb d a i - k) / 8
  all : hok ht hb d st a i
/-- Its block. -/
def rvH (rb : Nat) (da : Option Addr) (n cp : Nat) (d : Nat → Nat) (ht : Nat → Nat) (hb st a i k B : Nat) : Blk := rvB rb da n cp ((hpl ht hb d a i - k) / 8) st B k
theorem RvI.init {n o st hb : Nat} {ht : Nat → Nat} (hd : ∀ i, d i < 256) (hz : d o ≠ 0) (ho : o < n) (hst : st ≤ o) : RvI d n ht hb st (rvA d o) 0 (rvA d o % 8) (d o) := by
  obtain ⟨i1, i2, i3⟩ := RvOk.init (d := d) hd hz
  have e : rvA d o = 8 * o + Nat.log2 (d o) := rfl
  rw [← e] at i1 i2 i3
  refine ⟨i1, by omega, ?_, ?_, fun i hi => absurd hi (Nat.not_lt_zero _)⟩
  · show (rvA d o - rvA d o % 8) / 8 ≤ n
    omega
  · show st ≤ (rvA d o - rvA d o % 8) / 8
    omega
theorem rvH_init {rb n cp o st hb : Nat} {da : Option Addr} {ht : Nat → Nat} (hd : ∀ i, d i < 256) (hz : d o ≠ 0) : (rvB rb da n cp o st (d o) (Nat.log2 (d o))) = rvH rb da n cp d ht hb st (rvA d o) 0 (rvA d o % 8) (d o) := by
  obtain ⟨i1, i2, i3⟩ := RvOk.init (d := d) hd hz
  have e : rvA d o = 8 * o + Nat.log2 (d o) := rfl
  rw [← e] at i1 i2 i3
  unfold rvH
  rw [show hpl ht hb d (rvA d o) 0 = rvA d o from rfl, i2, show (rvA d o - Nat.log2 (d o)) / 8 = o by omega]
/-- Behind a symbol. -/
theorem RvI.next {n hb st a i k B : Nat} {ht : Nat → Nat} (h : RvI d n ht hb st a i k B) (hH : HtB hb ht) (hk : hb ≤ k) (h1 : 8 * st + hb ≤ hpl ht hb d a i) : RvI d n ht hb st a (i + 1) (k - hent ht hb d (hpl ht hb d a i) % 256) B := by
  have e1 := hH.le _ (bitsAt_lt d hb (hpl ht hb d a i - hb))
  have e2 : hent ht hb d (hpl ht hb d a i) = ht (bitsAt d (hpl ht hb d a i - hb) hb) := rfl
  have e3 : hpl ht hb d a (i + 1) = hpl ht hb d a i - hent ht hb d (hpl ht hb d a i) % 256 := rfl
  rw [← e2] at e1
  have hle := h.ok.le
  have h7 := h.k7
  have hon := h.on
  have hst := h.ge
  refine ⟨by rw [e3]; exact h.ok.less (by omega), by omega, by rw [e3]; omega, by rw [e3]; omega, hok_next h.all h1⟩
theorem rvH_next {rb n cp hb st a i k B : Nat} {da : Option Addr} {ht : Nat → Nat} (h : RvI d n ht hb st a i k B) (hH : HtB hb ht) (hk : hb ≤ k) : ((rvH rb da n cp d ht hb st a i k B).st 5 (.int .u32 ((k - hent ht hb d (hpl ht hb d a i) % 256 : Nat) : Int))).obj = (rvH rb da n cp d ht hb st a (i + 1) (k - hent ht hb d (hpl ht hb d a i) % 256) B).obj := by
  have e1 := hH.le _ (bitsAt_lt d hb (hpl ht hb d a i - hb))
  have e2 : hent ht hb d (hpl ht hb d a i) = ht (bitsAt d (hpl ht hb d a i - hb) hb) := rfl
  have e3 : hpl ht hb d a (i + 1) = hpl ht hb d a i - hent ht hb d (hpl ht hb d a i) % 256 := rfl
  rw [← e2] at e1
  have hle := h.ok.le
  refine (rv_5 rb da n cp _ _ _ _ _).trans ?_
  unfold rvH
  rw [e3, show hpl ht hb d a i - hent ht hb d (hpl ht hb d a i) % 256 - (k - hent ht hb d (hpl ht hb d a i) % 256) = hpl ht hb d a i - k by omega]

theorem fh_t (S : Sent G) (vb rb tb c1 c2 c3 : Nat) (x : Int) (s : RS) (da : Option Addr) (n cp : Nat) (hd : ∀ i, d i < 256) (hv : View G da n cp d) (hn : n ≤ 2 ^ 20) (hb : Nat) (ht : Nat → Nat) (hH : HtB hb ht) (st a i k B : Nat) (hst : st ≤ n) (ha : a ≤ 8 * n + 7) (hI : RvI d n ht hb st a i k B) :
    Trip Tryd.prog G 80 #[.pointer (some ⟨vb, 0, none⟩), .pointer (some ⟨c1, 0, none⟩), .pointer (some ⟨c2, 0, none⟩), .pointer (some ⟨c3, 0, none⟩)]
      [(vb, rvH rb da n cp d ht hb st a i k B), (rb, rdB x s), (c1, listB [.int .u32 (hb : Nat)] 40), (c2, listB [.int .u32 ((2 ^ hb - 1 : Nat) : Int)] 40), (c3, listB [.slice (some ⟨tb, 0, none⟩) 2048 2048] 79), (tb, arrB .u16 2048 ht 104)] (fun v m =>
      (8 * st + hb ≤ hpl ht hb d a i ∧ v = .tuple #[.int .u16 (hent ht hb d (hpl ht hb d a i) : Nat), .nilIface] ∧ ∃ k' B', hb ≤ k' ∧ RvI d n ht hb st a i k' B' ∧
        m = [(vb, rvH rb da n cp d ht hb st a i k' B'), (rb, rdB x s), (c1, listB [.int .u32 (hb : Nat)] 40), (c2, listB [.int .u32 ((2 ^ hb - 1 : Nat) : Int)] 40), (c3, listB [.slice (some ⟨tb, 0, none⟩) 2048 2048] 79), (tb, arrB .u16 2048 ht 104)]) ∨
      (¬ hok ht hb d st a (i + 1) ∧ (∃ e, v = .tuple #[.int .u16 0, e] ∧ ErrV S .z e) ∧ ∃ B', m = [(vb, B'), (rb, rdB x s), (c1, listB [.int .u32 (hb : Nat)] 40), (c2, listB [.int .u32 ((2 ^ hb - 1 : Nat) : Int)] 40), (c3, listB [.slice (some ⟨tb, 0, none⟩) 2048 2048] 79), (tb, arrB .u16 2048 ht 104)])) := by
  refine Trip_of Tryd.func80 rfl (by show 4 ≤ _; decide) (args := [.pointer (some ⟨vb, 0, none⟩), .pointer (some ⟨c1, 0, none⟩), .pointer (some ⟨c2, 0, none⟩), .pointer (some ⟨c3, 0, none⟩)]) fun c h0 hex => ?_
  have hb1 := hH.b1
  have hb11 := hH.b11
  have hp11 : 2 ^ hb ≤ 2 ^ 11 := Nat.pow_le_pow_right (by omega) hb11
  have hp1 : 1 ≤ 2 ^ hb := Nat.one_le_two_pow
  obtain ⟨y, hy⟩ : ∃ y, y = hpl ht hb d a i := ⟨_, rfl⟩
  have hya := hpl_le ht hb d a i
  obtain ⟨I1, I2, I3, I4, I5⟩ := hI
  unfold rvH
  rw [← hy] at I1 I3 I4 hya ⊢
  have hal := I1.al
  have hle := I1.le
  refine go _ ?_
  refine ro_callT (fetch_t (G := G) vb rb _ n cp hd hv hn y k B st hb I1 (by omega) I3 (by omega) (by omega)) ?_
  rintro v m (⟨h1, rfl, k', B', h2, h3, h4, h6, rfl⟩ | ⟨h1, rfl, of, B', k', h2, rfl⟩) <;> rw [List.cons_append, List.nil_append]
  · have hal' := h4.al
    have hle' := h4.le
    have hlt' := h4.lt
    have hval := rvV_of h4 h2 (by omega)
    rw [rvV_all (by omega)] at hval
    have hdv : B' / 2 ^ (k' - hb) ≤ B' := Nat.div_le_self _ _
    have hix : B' / 2 ^ (k' - hb) &&& 2 ^ hb - 1 = bitsAt d (y - hb) hb := by rw [Nat.and_two_pow_sub_one_eq_mod, hval]
    have hxl := bitsAt_lt d hb (y - hb)
    obtain ⟨ix, hixe⟩ : ∃ ix, ix = bitsAt d (y - hb) hb := ⟨_, rfl⟩
    have hent' : hent ht hb d y = ht ix := by unfold hent; rw [← hixe]
    rw [← hixe] at hix hxl
    refine go _ ?_
    rw [hix]
    refine go _ ?_
    rw [show ht (0 + ix) = hent ht hb d y by rw [Nat.zero_add, hent']]
    refine J_ret ?_
    refine ends_retS [5, 6] (post := [(vb, rvB rb da n cp ((y - k') / 8) st B' k'), (rb, rdB x s), (c1, listB [.int .u32 (hb : Nat)] 40), (c2, listB [.int .u32 ((2 ^ hb - 1 : Nat) : Int)] 40), (c3, listB [.slice (some ⟨tb, 0, none⟩) 2048 2048] 79), (tb, arrB .u16 2048 ht 104)]) (.inl ⟨by omega, rfl, k', B', h2, ⟨by rw [← hy]; exact h4, by omega, by rw [← hy]; exact h6, by rw [← hy]; omega, I5⟩, rfl⟩)
  · refine go _ ?_
    refine ro_callT (rvErr_t S vb rb x s _ n cp of st _ _ h2 _) ?_
    rintro v m ⟨⟨b', rfl⟩, rfl⟩
    refine go _ ?_
    refine J_ret ?_
    refine ends_retS [5, 6] (post := [(vb, _), (rb, rdB x s), (c1, listB [.int .u32 (hb : Nat)] 40), (c2, listB [.int .u32 ((2 ^ hb - 1 : Nat) : Int)] 40), (c3, listB [.slice (some ⟨tb, 0, none⟩) 2048 2048] 79), (tb, arrB .u16 2048 ht 104)]) (.inr ⟨fun h => ?_, ⟨_, rfl, b', rfl⟩, _, rfl⟩)
    have := h i (Nat.lt_succ_self _)
    rw [← hy] at this
    exact h1 (.inr this)
end Go.Proofs.YtogmacnlpclgkaaDoor
