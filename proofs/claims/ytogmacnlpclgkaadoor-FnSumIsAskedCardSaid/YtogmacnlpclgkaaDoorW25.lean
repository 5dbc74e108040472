/-
  WALKS 25: refill, refillIfNeeded.
-/
import Derived.Test.YtogmacnlpclgkaaDoorW24
namespace Go.Proofs.YtogmacnlpclgkaaDoor
open Go Go.Eng
attribute [local irreducible] RO J Trip Quiet
set_option maxRecDepth 20000
variable {G : Mem} {S : Sent G} {dat : Nat → Nat} {N : Nat}

/-- Where a compressed block stands next, it is one that may be asked for. -/
def CanAt (dat : Nat → Nat) (N : Nat) {E : Type} (can : PS E → Nat → Prop) (p : PS E) : Prop :=
  3 ≤ N - p.pos → hdr3 dat p.pos / 2 % 4 = 2 → can { p with pos := p.pos + 3 } (hdr3 dat p.pos / 8)

theorem rfill_t (src : Source S dat N) (hd : ∀ i, dat i < 256) (hsk : SkipT src) {E : Type} (Ext : E → RX → Mem → Prop) (cmp : PS E → Nat → PS E × Bool) (can : PS E → Nat → Prop) (hcmp : CmpT src Ext cmp can)
    (ini : E → E) (hini : ∀ e x em, Ext e x em → Ext (ini e) x.ini em) (fb : Blk) (hfb : (2, fb) ∈ G) (hfn : 0 < fb.n) (hfv : fb.g 0 = .bool false) (hN : N ≤ 2 ^ 62)
    (rb : Nat) (p : PS E) (m : Mem) (hm : RdM src Ext rb p m) (hcan : (rdHd dat N ini p).2 = 0 → CanAt dat N can (rdHd dat N ini p).1) :
    Trip Tryd.prog G 51 #[.pointer (some ⟨rb, 0, none⟩)] m (fun v m' => RdM src Ext rb (rdFill dat N ini cmp p).1 m' ∧ EndV S (rdFill dat N ini cmp p).2 v) := by
  have hm0 := hm
  obtain ⟨x, s, q0, bm, wm, em, rfl, hok, hpos, hrv, hscr, hfl, hrem, hSb, hbl, hws, hb, hw, hx, hext⟩ := hm
  refine Trip_of Tryd.func51 rfl (by show 1 ≤ _; decide) (args := [.pointer (some ⟨rb, 0, none⟩)]) fun c h0 hex => ?_
  refine go _ ?_
  refine J_joinE (σ := PS E × Mem) [] (fun _ => [(0, .pointer (some ⟨rb, 0, none⟩))]) (fun t => t.2) (fun t => RdM src Ext rb t.1 t.2 ∧ rdHd dat N ini p = (t.1, 0)) ?_ ?_
  · refine J_cond rfl (fun hu => ?_) (fun hu => ?_)
    · have hu' : p.saw = false := by rw [← hfl.1]; simpa using hu
      have hH : rdHd dat N ini p = rdHdr dat N ini p := by unfold rdHd; rw [if_neg (by rw [hu']; decide)]
      obtain ⟨ph, hsl, hwr⟩ := hw
      refine go _ ?_
      refine ro_callT (rfhE_t src hd hsk q0 rb x s wm p.wl _ hok hrv hscr hsl fb hfb hfn hfv) ?_ (hs := mH _ _ _ _ _)
      rintro v m ⟨x', s', q', wm', h1, h2, rfl, h3⟩
      rw [hpos] at h3
      obtain ⟨r1, r2⟩ := rdHdr_of src hd Ext ini hini rb p s bm wm em hrv hfl hrem hSb hbl hws hb ⟨ph, hsl, hwr⟩ hx hext (x' := x') h1 h2 h3
      refine RO_eqv (mH _ _ _ _ _).symm (fun _ h => J_eqv (mH _ _ _ _ _).symm h) ?_
      rcases r2 with ⟨hc, rfl⟩ | ⟨hc, he⟩ | ⟨hc, he⟩
      · refine go _ ?_
        exact ⟨(_, _), ⟨r1, by rw [hH, ← hc]⟩, ⟨rfl, trivial⟩, .refl _⟩
      · have hF : rdFill dat N ini cmp p = rdHdr dat N ini p := by unfold rdFill; rw [hH, if_neg (by rw [hc]; decide)]
        obtain rfl : v = .iface 122 (.pointer (some ⟨S.eb, S.eo, none⟩)) := he
        refine go _ ?_
        refine J_ret ?_
        exact ends_retS [2] (post := _) (junk := []) ⟨by rw [hF]; exact r1, .inr (.inl ⟨by rw [hF]; exact hc, rfl⟩)⟩ rfl (by rw [List.append_nil]; exact MEqv.refl _)
      · have hF : rdFill dat N ini cmp p = rdHdr dat N ini p := by unfold rdFill; rw [hH, if_neg (by rw [hc]; decide)]
        obtain ⟨b', rfl⟩ := he
        refine go _ ?_
        refine J_ret ?_
        exact ends_retS [2] (post := _) (junk := []) ⟨by rw [hF]; exact r1, .inr (.inr ⟨by rw [hF]; exact hc, b', rfl⟩)⟩ rfl (by rw [List.append_nil]; exact MEqv.refl _)
    · have hu' : p.saw = true := by rw [← hfl.1]; simpa using hu
      refine go _ ?_
      exact ⟨(p, _), ⟨hm0, by unfold rdHd; rw [if_pos hu']⟩, ⟨rfl, trivial⟩, .refl _⟩
  rintro ⟨p1, m1⟩ f ⟨hm1, hH⟩
  dsimp only at hm1 hH ⊢
  rw [hH] at hcan
  refine go _ ?_
  refine ro_callT (rblk_t src hd Ext cmp can hcmp rb p1 m1 hm1 hN (hcan rfl)) ?_ (fm := []) (hs := by rw [List.append_nil]; exact .refl _)
  rintro v m ⟨hm2, hv⟩
  rw [List.append_nil]
  have hF : rdFill dat N ini cmp p = ((rdBlk dat N cmp p1).1, if (rdBlk dat N cmp p1).2 then 0 else 2) := by unfold rdFill; rw [hH, if_pos rfl]
  rcases hv with ⟨hc, rfl⟩ | ⟨hc, b', rfl⟩
  · refine go _ ?_
    refine J_ret ?_
    exact ends_retS [2] (post := m) (junk := []) ⟨by rw [hF]; exact hm2, .inl ⟨by rw [hF, hc]; rfl, rfl⟩⟩ rfl (by rw [List.append_nil]; exact MEqv.refl _)
  · refine go _ ?_
    refine J_ret ?_
    exact ends_retS [2] (post := m) (junk := []) ⟨by rw [hF]; exact hm2, .inr (.inr ⟨by rw [hF, hc]; rfl, b', rfl⟩)⟩ rfl (by rw [List.append_nil]; exact MEqv.refl _)

/-- States that a walk goes through. -/
structure OkS (dat : Nat → Nat) (N : Nat) {E : Type} (ini : E → E) (cmp : PS E → Nat → PS E × Bool) (can : PS E → Nat → Prop) (Ok : PS E → Prop) : Prop where
  can : ∀ p, Ok p → (rdHd dat N ini p).2 = 0 → CanAt dat N can (rdHd dat N ini p).1
  fill : ∀ p, Ok p → (rdFill dat N ini cmp p).2 = 0 → Ok { (rdFill dat N ini cmp p).1 with off := 0 }
  off : ∀ p k, Ok p → Ok { p with off := k }

theorem rd_8 (x : Int) (s : RS) : ((rdB x s).st 8 (.int .i64 0)).obj = (rdB x (s.wOff 0)).obj := blk_tab rfl rfl rfl rfl
theorem rd_8n (x : Int) (s : RS) (n : Nat) : ((rdB x s).st 8 (.int .i64 n)).obj = (rdB x (s.wOff n)).obj := blk_tab rfl rfl rfl rfl

theorem rneed_t (src : Source S dat N) (hd : ∀ i, dat i < 256) (hsk : SkipT src) {E : Type} (Ext : E → RX → Mem → Prop) (cmp : PS E → Nat → PS E × Bool) (can : PS E → Nat → Prop) (hcmp : CmpT src Ext cmp can) (hgo : CmpGo N cmp)
    (ini : E → E) (hini : ∀ e x em, Ext e x em → Ext (ini e) x.ini em) (fb : Blk) (hfb : (2, fb) ∈ G) (hfn : 0 < fb.n) (hfv : fb.g 0 = .bool false) (hN : N ≤ 2 ^ 62)
    (Ok : PS E → Prop) (hOk : OkS dat N ini cmp can Ok) (rb : Nat) (p : PS E) (m : Mem) (hm : RdM src Ext rb p m) (hp : Ok p) :
    Trip Tryd.prog G 46 #[.pointer (some ⟨rb, 0, none⟩)] m (fun v m' => RdM src Ext rb (rdNeed dat N ini cmp (N + 1) p).1 m' ∧ EndV S (rdNeed dat N ini cmp (N + 1) p).2 v ∧
      ((rdNeed dat N ini cmp (N + 1) p).2 = 0 → Ok (rdNeed dat N ini cmp (N + 1) p).1 ∧ (rdNeed dat N ini cmp (N + 1) p).1.off < (rdNeed dat N ini cmp (N + 1) p).1.bl)) := by
  refine Trip_of Tryd.func46 rfl (by show 1 ≤ _; decide) (args := [.pointer (some ⟨rb, 0, none⟩)]) fun c h0 hex => ?_
  refine go _ ?_
  refine J_loopL (σ := PS E × Mem) [] (fun _ => [(0, .pointer (some ⟨rb, 0, none⟩))]) (fun t => t.2) (fun t => RdM src Ext rb t.1 t.2 ∧ Ok t.1 ∧ rdNeed dat N ini cmp (N + 1) p = rdNeed dat N ini cmp (N + 1) t.1) (fun t => N - t.1.pos) (p, m) (.refl _) ⟨hm, hp, rfl⟩ ?_
  rintro ⟨p1, m1⟩ f ⟨hm1, hp1, hE⟩
  dsimp only at hm1 hp1 hE ⊢
  have hm0 := hm1
  obtain ⟨x, s, q0, bm, wm, em, rfl, hok, hpos, hrv, hscr, hfl, hrem, hSb, hbl, hws, hb, hw, hx, hext⟩ := hm1
  obtain ⟨oa, cp, hbv, -⟩ := bufForm hb
  have hoff := hfl.2.2.2.2.2.1
  obtain ⟨s, rfl⟩ : ∃ s' : RS, s = (s'.wBuf (.slice oa p1.bl cp)).wOff p1.off := ⟨s, by cases s; simp only at hbv hoff; rw [hbv, hoff]⟩
  refine go _ ?_
  refine J_condP rfl (fun hge => ?_) (fun hlt => ?_)
  · have hn : ¬ p1.off < p1.bl := by omega
    refine go _ ?_
    refine ro_callT (rfill_t src hd hsk Ext cmp can hcmp ini hini fb hfb hfn hfv hN rb p1 _ hm0 (hOk.can p1 hp1)) ?_ (fm := []) (hs := by rw [List.append_nil]; exact .refl _)
    rintro v m2 ⟨hm2, hv⟩
    rw [List.append_nil]
    rcases hv with ⟨hc, rfl⟩ | ⟨hc, he⟩ | ⟨hc, he⟩
    · have hlt := rdFill_pos dat N ini cmp hgo p1 hc
      have hst := rdNeed_step dat N ini cmp hgo p1 hn hc
      have hok2 := hOk.fill p1 hp1 hc
      obtain ⟨x2, s2, q2, bm2, wm2, em2, rfl, a1, a2, a3, a4, ⟨b1, b2, b3, b4, b5, b6, b7⟩, a6, a7, a8, a9, a10, a11, a12, a13⟩ := hm2
      refine go _ ?_
      exact ⟨({ (rdFill dat N ini cmp p1).1 with off := 0 }, (rb, rdB x2 (s2.wOff 0)) :: (src.mem q2 ++ (bm2 ++ (wm2 ++ em2)))), hlt, ⟨⟨x2, _, q2, bm2, wm2, em2, rfl, a1, a2, a3, a4, ⟨b1, b2, b3, b4, b5, rfl, b7⟩, a6, a7, a8, a9, a10, a11, fun h => ⟨(a12 h).len, (a12 h).acc, (a12 h).cnt, (a12 h).buf, (a12 h).byte⟩, a13⟩, hok2, hE.trans hst⟩, ⟨rfl, trivial⟩, .cons (rd_8 _ _) (.refl _)⟩
    · have hF := hE.trans (rdNeed_stop dat N ini cmp p1 hn (by rw [hc]; decide))
      obtain rfl : v = .iface 122 (.pointer (some ⟨S.eb, S.eo, none⟩)) := he
      refine go _ ?_
      refine J_ret ?_
      exact ends_retS [2] (post := _) (junk := []) ⟨by rw [hF]; exact hm2, .inr (.inl ⟨by rw [hF]; exact hc, rfl⟩), fun h => by rw [hF, hc] at h; exact absurd h (by decide)⟩ rfl (by rw [List.append_nil]; exact MEqv.refl _)
    · have hF := hE.trans (rdNeed_stop dat N ini cmp p1 hn (by rw [hc]; decide))
      obtain ⟨b', rfl⟩ := he
      refine go _ ?_
      refine J_ret ?_
      exact ends_retS [2] (post := _) (junk := []) ⟨by rw [hF]; exact hm2, .inr (.inr ⟨by rw [hF]; exact hc, b', rfl⟩), fun h => by rw [hF, hc] at h; exact absurd h (by decide)⟩ rfl (by rw [List.append_nil]; exact MEqv.refl _)
  · have hn : p1.off < p1.bl := by omega
    have hF := hE.trans (rdNeed_done dat N ini cmp p1 hn)
    refine go _ ?_
    refine J_ret ?_
    exact ends_retS [2] (post := _) (junk := []) ⟨by rw [hF]; exact hm0, .inl ⟨by rw [hF], rfl⟩, fun _ => by rw [hF]; exact ⟨hp1, hn⟩⟩ rfl (by rw [List.append_nil]; exact MEqv.refl _)
end Go.Proofs.YtogmacnlpclgkaaDoor
