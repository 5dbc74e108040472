/-
  TEXTS MERGED: C28, C29, C30.
-/
import Derived.Test.YtogmacnlpclgkaaDoorK37
/-! COMPRESSED BLOCKS 28: compressedBlock. -/
namespace Go.Proofs.YtogmacnlpclgkaaDoor
open Go Go.Eng Go.Pz
attribute [local irreducible] RO J Trip Quiet
set_option maxRecDepth 20000
variable {G : Mem} {S : Sent G} {dat : Nat → Nat} {N : Nat}

theorem BufN.take {oa : Option Addr} {n k cp : Nat} {T : Nat → Nat} {sm : Mem} (h : BufN (.slice oa n cp) n T sm) (hk : k ≤ n) : BufN (.slice oa k cp) k T sm := by
  rcases h with ⟨h1, rfl, h3, h4⟩ | ⟨b, cap, B, h1, h2, h3, h4, h5, h6⟩
  · cases h1
    obtain rfl : k = 0 := by omega
    exact .inl ⟨rfl, rfl, h3, h4⟩
  · cases h1
    exact .inr ⟨b, _, B, rfl, h2, h3, h4, Nat.le_trans hk h5, h6⟩
theorem blit_zero8 {T : Nat → Nat} {n k : Nat} : blit (u8f T) n k (fun _ => .int .u8 0) = u8f (apD T n k fun _ => 0) := blit_apD fun _ _ => rfl
theorem apD_lt {T T' : Nat → Nat} {n k : Nat} (h : ∀ i, T i < 256) (h' : ∀ i, T' i < 256) : ∀ i, apD T n k T' i < 256 := fun i => by unfold apD; split; exact h' _; exact h _
section
variable {P : Program} [ty : TyC P] {qs : List FuncId} {c : World} {n : Nat} {h0 : Base} {ops : Array Oper} {Q : Fr → Mem → Prop} {rest : List Oper} {f : Fr} {m : Mem}
variable {dd : Option Tmp} {T T' tt : TypeId} {pos : String} {aft : Array Edge}
theorem ro_sl0 {x : Operand} {hi : Option Operand} {e len cp : Nat} {va : Option Addr} {lm : Mem} (hl : LitM (.slice va len cp) lm) (hx : ev f x = .slice va len cp) (hT : TyC.tk P T = .sl e) (hs : TyC.sz P e = 1) (hh : ∀ k, optInt f hi k = some 0) (hd : dstOk n dd = true)
    (hk : RO P G qs c n h0 ops Q rest (updo f dd (.slice va 0 cp)) m) : RO P G qs c n h0 ops Q (⟨dd, .slice T x none hi none, tt, pos, aft, none⟩ :: rest) f m := by
  rcases hl with ⟨h1, _⟩ | ⟨b, l, c, B, h1, h2, h3, h4, h5⟩
  · cases h1
    exact ro_sliceNil (s := 0) hx hT hs rfl (hh _) hd hk
  · cases h1
    exact ro_slTo (s := 0) 0 hx hT hs (hh _) (Nat.zero_le _) hd hk
end
/-- Only what compressed blocks touch differs. -/
def SameC (s y : RS) : Prop := ∃ rv cb lit buf r1 r2 r3 ht hb a0 a1 a2 b0 b1 b2 c0 c1 c2 fs, y = ({ s with rv := rv, cb := cb, lit := lit, buf := buf, r1 := r1, r2 := r2, r3 := r3, ht := ht, hb := hb, st0 := a0, st1 := a1, st2 := a2, sb0 := b0, sb1 := b1, sb2 := b2, tb0 := c0, tb1 := c1, tb2 := c2, fs := fs } : RS)
theorem rdM_of {src : Source S dat N} {rb : Nat} {x : Int} {s : RS} {p : PS CE} {wm : Mem} (hscr : ∀ i, s.scr i < 256) (hfl : s.saw = p.saw ∧ s.sum = p.sum ∧ s.one = p.one ∧ s.unk = p.unk ∧ s.rem = p.rem ∧ s.off = p.off ∧ s.wsz = p.wsz) (hrem : p.rem < q64) (hws : p.wsz ≤ 2 ^ 30)
    (hw : WinM s.wd p.wsz s.wo p.L p.wl wm) (hx : p.sum = true → XhM s p.XT p.XN)
    (q1 : src.σ) (y : RS) (pos : Nat) (S1 : Nat → Nat) (bl : Nat) (e : CE) (bm em : Mem) (hy : SameC s y) (hrv : y.rv = .iface src.t src.rv) (hok : src.ok q1) (hpos : src.pos q1 = pos) (hS : ∀ i, S1 i < 256) (hbl : bl ≤ 2 ^ 30) (hb : BufN y.buf bl S1 bm) (he : ExtC e y.ext em) :
    RdM src ExtC rb { p with pos := pos, S := S1, bl := bl, e := e } ((rb, rdB x y) :: (src.mem q1 ++ (bm ++ (wm ++ em)))) := by
  obtain ⟨rv, cb, lit, buf, r1, r2, r3, ht, hb', a0, a1, a2, b0, b1, b2, c0, c1, c2, fs, rfl⟩ := hy
  exact ⟨x, _, q1, bm, wm, em, rfl, hok, hpos, hrv, hscr, hfl, hrem, hS, hbl, hws, hb, hw, fun h => ⟨(hx h).len, (hx h).acc, (hx h).cnt, (hx h).buf, (hx h).byte⟩, he⟩
theorem SameC.buf {s y : RS} (h : SameC s y) (v : Value) : SameC s (y.wBuf v) := by
  obtain ⟨_, _, _, _, _, _, _, _, _, _, _, _, _, _, _, _, _, _, _, rfl⟩ := h
  exact ⟨_, _, _, _, _, _, _, _, _, _, _, _, _, _, _, _, _, _, _, rfl⟩
theorem SameC.wX {s y : RS} (h : SameC s y) (oa : Option Addr) (bl cp r1 r2 r3 : Nat) : SameC s (y.wX oa bl cp r1 r2 r3) := by
  obtain ⟨_, _, _, _, _, _, _, _, _, _, _, _, _, _, _, _, _, _, _, rfl⟩ := h
  exact ⟨_, _, _, _, _, _, _, _, _, _, _, _, _, _, _, _, _, _, _, rfl⟩
abbrev RS.wK (s : RS) (rv cb lit buf : Value) : RS := { s with rv := rv, cb := cb, lit := lit, buf := buf }

set_option maxHeartbeats 8000000 in
theorem cmp_t (src : Source S dat N) (hd : ∀ i, dat i < 256) (hB0 : BaseG G 4 litBase) (hB2 : BaseG G 5 matBase) (hN : N ≤ 2 ^ 62) :
    CmpT src ExtC (cmpBlk dat N) (fun p _ => p.wsz ≤ 2 ^ 27 ∧ ∀ i, p.L i < 256) := by
  intro rb p m size hm hcan hsz
  obtain ⟨x, s, q0, bm, wm, em, rfl, hok, hpos, hrv, hscr, hfl, hrem, hSb, hbl, hws, hb, hw, hx, hext⟩ := hm
  obtain ⟨cl, cS, cm, lm, hm, m0, m1, m2, fm, jk, hp, e1, e2, e3, e4, e5, e6, e7, e8, e9, e10, e11, e12⟩ := hext
  refine Trip_of Tryd.func54 rfl (by show 2 ≤ _; decide) (args := [.pointer (some ⟨rb, 0, none⟩), .int .i64 (size : Nat)]) fun c h0 hex => ?_
  have lim := src.le q0 hok
  obtain ⟨ca, cc, hca⟩ := BufM.form e1
  obtain ⟨ba, bc, hba⟩ := BufM.form hb
  obtain ⟨va, vl, vc, hva, hlt, _, hvl⟩ := e4.cut (fun _ => 0)
  have hs : s = s.wK (.iface src.t src.rv) (.slice ca cl cc) (.slice va vl vc) (.slice ba p.bl bc) := by
    have h1 : s.cb = .slice ca cl cc := hca
    have h2 : s.lit = .slice va vl vc := hva
    rw [← hrv, ← hba, ← h1, ← h2]
  have hcb : s.ext.cb = s.cb := rfl
  rw [hca] at e1
  rw [hba] at hb
  have hcl := hb.view (M := bm) (fun _ h => h)
  refine J_eqv (m' := (rb, rdB x (s.wK (.iface src.t src.rv) (.slice ca cl cc) (.slice va vl vc) (.slice ba p.bl bc))) :: (cm ++ (src.mem q0 ++ (bm ++ (wm ++ (lm ++ (hm ++ (m0 ++ (m1 ++ (m2 ++ (fm ++ jk))))))))))) (by
    rw [← hs]
    exact .of_perm (List.Perm.cons _ (((hp.append_left wm).append_left bm).append_left (src.mem q0) |>.trans (by classical exact List.perm_iff_count.2 fun a => by first | (simp only [List.count_append, List.count_cons, List.count_nil]; omega) | (simp only [List.append_eq, List.count_append, List.count_cons, List.count_nil]; omega))))) ?_
  obtain ⟨rst, hrst⟩ : ∃ r, r = bm ++ (wm ++ (lm ++ (hm ++ (m0 ++ (m1 ++ (m2 ++ (fm ++ jk))))))) := ⟨_, rfl⟩
  rw [← hrst]
  refine go _ ?_
  refine J_joinE (σ := Option Addr × Nat × (Nat → Nat) × Mem) [0] (fun _ => []) (fun t => (rb, rdB x (s.wK (.iface src.t src.rv) (.slice t.1 size t.2.1) (.slice va vl vc) (.slice ba p.bl bc))) :: (t.2.2.2 ++ (src.mem q0 ++ rst))) (fun t => BufN (.slice t.1 size t.2.1) size t.2.2.1 t.2.2.2 ∧ ∀ i, t.2.2.1 i < 256) ?_ ?_
  · refine J_condP rfl (fun hge => ?_) (fun hlt => ?_)
    · have hcv := e1.view (M := cm) (fun _ h => h)
      have hcp := hcv.le
      refine go _ ?_
      refine ro_slVT size hcv rfl rfl rfl rfl rfl (by omega) rfl ?_
      refine go _ ?_
      exact ⟨(ca, cc, cS, cm), ⟨e1.take (by omega), e3⟩, joined (.cons (blk_tab rfl rfl rfl rfl) (.refl _))⟩
    · refine go _ ?_
      refine ro_appendBZF (len := cl) (k := size - cl) (S := u8f cS) (sm := cm) (fm := (rb, rdB x (s.wK (.iface src.t src.rv) (.slice ca cl cc) (.slice va vl vc) (.slice ba p.bl bc))) :: (src.mem q0 ++ rst)) rfl rfl rfl rfl z5 (by decide) rfl rfl e1 ((by classical exact List.perm_iff_count.2 fun a => by first | (simp only [List.count_append, List.count_cons, List.count_nil]; omega) | (simp only [List.append_eq, List.count_append, List.count_cons, List.count_nil]; omega))) rfl (by omega) hex rfl ?_ (hQ := fun _ _ _ e h => by obtain ⟨t, h1, h2, h3⟩ := h; exact ⟨t, h1, h2, e.trans h3⟩)
      intro v' sm' hv h1v
      rw [blit_zero8, show cl + (size - cl) = size by omega] at hv
      obtain ⟨oa', cp', rfl⟩ := BufM.form hv
      refine go _ ?_
      exact ⟨(oa', cp', apD cS cl (size - cl) fun _ => 0, sm'), ⟨hv, apD_lt e3 fun _ => by show 0 < 256; omega⟩, joined (.trans (.cons (B' := rdB x (s.wK (.iface src.t src.rv) (.slice oa' size cp') (.slice va vl vc) (.slice ba p.bl bc))) (blk_tab rfl rfl rfl rfl) (.refl _)) (.of_perm (by classical exact List.perm_iff_count.2 fun a => by first | (simp only [List.count_append, List.count_cons, List.count_nil]; omega) | (simp only [List.append_eq, List.count_append, List.count_cons, List.count_nil]; omega))))⟩
  clear e1 e2 e3 hca
  rintro ⟨ca, cc, cS, cm⟩ f ⟨e1, e3⟩
  dsimp only at e1 e3 ⊢
  refine go _ ?_
  refine ro_callTF (fullB_t src q0 (.slice ca size cc) size cS cm hok e1 (by omega)) ?_ (fm := (rb, rdB x (s.wK (.iface src.t src.rv) (.slice ca size cc) (.slice va vl vc) (.slice ba p.bl bc))) :: rst) (hs := .of_perm (by classical exact List.perm_iff_count.2 fun a => by first | (simp only [List.count_append, List.count_cons, List.count_nil]; omega) | (simp only [List.append_eq, List.count_append, List.count_cons, List.count_nil]; omega)))
  rintro v m ⟨q1, k, cm1, g1, g2, g3, g4, rfl, rfl⟩
  rw [hpos] at g2 g3 g4
  have hov := ov_lt (g := cS) e3 hd k p.pos
  rw [hva] at e4
  by_cases h4 : size ≤ k
  rotate_left
  · have hR : cmpBlk dat N p size = ({ p with pos := p.pos + k }, false) := by
      unfold cmpBlk; dsimp only; rw [← g2, if_pos (by omega)]
    have hfin : RdM src ExtC rb (cmpBlk dat N p size).1 ((rb, rdB x (s.wK (.iface src.t src.rv) (.slice ca size cc) (.slice va vl vc) (.slice ba p.bl bc))) :: (src.mem q1 ++ (bm ++ (wm ++ (cm1 ++ (lm ++ (hm ++ (m0 ++ (m1 ++ (m2 ++ (fm ++ jk))))))))))) := by
      rw [hR]
      exact rdM_of hscr hfl hrem hws hw hx q1 _ _ p.S p.bl p.e bm _ ⟨_, _, _, _, _, _, _, _, _, _, _, _, _, _, _, _, _, _, _, rfl⟩ rfl g1 g3 hSb hbl hb ⟨size, _, cm1, lm, hm, m0, m1, m2, fm, jk, .refl _, g4, by omega, hov, e4, e5, e6, e7, e8, e9, e10, e11, e12⟩
    refine RO_eqv (m' := (rb, rdB x (s.wK (.iface src.t src.rv) (.slice ca size cc) (.slice va vl vc) (.slice ba p.bl bc))) :: (src.mem q1 ++ (bm ++ (wm ++ (cm1 ++ (lm ++ (hm ++ (m0 ++ (m1 ++ (m2 ++ (fm ++ jk))))))))))) (by rw [hrst]; exact .of_perm (by classical exact List.perm_iff_count.2 fun a => by first | (simp only [List.count_append, List.count_cons, List.count_nil]; omega) | (simp only [List.append_eq, List.count_append, List.count_cons, List.count_nil]; omega))) (fun _ h => J_eqv (by rw [hrst]; exact .of_perm (by classical exact List.perm_iff_count.2 fun a => by first | (simp only [List.count_append, List.count_cons, List.count_nil]; omega) | (simp only [List.append_eq, List.count_append, List.count_cons, List.count_nil]; omega))) h) ?_
    by_cases h5 : k = 0
    · rw [fullV_eof h4 h5]
      refine go _ ?_
      refine ro_callT (wnonE_t S rb x _ _) ?_
      rintro v m ⟨⟨b', rfl⟩, rfl⟩
      refine go _ ?_
      refine J_ret ?_
      exact ends_retS [4] (post := (rb, rdB x _) :: (src.mem q1 ++ (bm ++ (wm ++ (cm1 ++ (lm ++ (hm ++ (m0 ++ (m1 ++ (m2 ++ (fm ++ jk))))))))))) (junk := []) ⟨hfin, .inr ⟨by rw [hR], .inl ⟨b', rfl⟩⟩⟩ rfl (by rw [List.append_nil]; exact MEqv.refl _)
    · rw [fullV_ueof h4 h5]
      refine go _ ?_
      refine ro_callT (wnonU_t S rb x _ _) ?_
      rintro v m ⟨⟨b', rfl⟩, rfl⟩
      refine go _ ?_
      refine J_ret ?_
      exact ends_retS [4] (post := (rb, rdB x _) :: (src.mem q1 ++ (bm ++ (wm ++ (cm1 ++ (lm ++ (hm ++ (m0 ++ (m1 ++ (m2 ++ (fm ++ jk))))))))))) (junk := []) ⟨hfin, .inr ⟨by rw [hR], .inl ⟨b', rfl⟩⟩⟩ rfl (by rw [List.append_nil]; exact MEqv.refl _)
  obtain rfl : k = size := by omega
  rw [fullV_ok (Nat.le_refl _)]
  refine RO_eqv (m' := (rb, rdB x (s.wK (.iface src.t src.rv) (.slice ca k cc) (.slice va vl vc) (.slice ba p.bl bc))) :: (cm1 ++ (src.mem q1 ++ rst))) (.of_perm (by classical exact List.perm_iff_count.2 fun a => by first | (simp only [List.count_append, List.count_cons, List.count_nil]; omega) | (simp only [List.append_eq, List.count_append, List.count_cons, List.count_nil]; omega))) (fun _ h => J_eqv (.of_perm (by classical exact List.perm_iff_count.2 fun a => by first | (simp only [List.count_append, List.count_cons, List.count_nil]; omega) | (simp only [List.append_eq, List.count_append, List.count_cons, List.count_nil]; omega))) h) ?_
  have hbv := hb.view (M := bm) (fun _ h => h)
  refine go _ ?_
  refine ro_slVT 0 hbv rfl rfl rfl rfl rfl (Nat.zero_le _) rfl ?_
  refine go _ ?_
  refine ro_sl0 e4 rfl rfl rfl (fun _ => rfl) rfl ?_
  refine go _ ?_
  obtain ⟨d, hdd⟩ : ∃ d : Nat → Nat, d = fun i => dat (p.pos + i) := ⟨_, rfl⟩
  have hd' : ∀ i, d i < 256 := fun i => by rw [hdd]; exact hd _
  have hdv : ∀ M, View (cm1 ++ M) ca k cc d := fun M => (BufN.view (M := cm1 ++ M) g4 fun _ h => List.mem_append.2 (.inl h)).congr fun i hi => by rw [hdd]; unfold ov; rw [if_pos hi]
  have hb0 := hb.take (Nat.zero_le p.bl)
  have hkl : k ≤ 131072 := by omega
  obtain ⟨y, hy⟩ : ∃ y, y = (s.wK (.iface src.t src.rv) (.slice ca k cc) (.slice va vl vc) (.slice ba 0 bc)) := ⟨_, rfl⟩
  have hyC : SameC s y := by rw [hy]; exact ⟨_, _, _, _, _, _, _, _, _, _, _, _, _, _, _, _, _, _, _, rfl⟩
  have hR : cmpBlk dat N p k = (match (lits p.e d k).2 with
      | none => ({ p with pos := p.pos + k, bl := 0, e := (lits p.e d k).1 }, false)
      | some (o, K, LT) => match (sqInit (lits p.e d k).1 d k o).2 with
        | none => ({ p with pos := p.pos + k, bl := 0, e := (sqInit (lits p.e d k).1 d k o).1 }, false)
        | some (c, o2) => if c = 0 then (if o2 < k then ({ p with pos := p.pos + k, bl := 0, e := (sqInit (lits p.e d k).1 d k o).1 }, false) else ({ p with pos := p.pos + k, S := apD p.S 0 K LT, bl := K, e := (sqInit (lits p.e d k).1 d k o).1 }, true))
          else ({ p with pos := p.pos + k, S := (sqExec (sqInit (lits p.e d k).1 d k o).1 d k o2 c p.L p.wl LT K p.S).1.S, bl := (sqExec (sqInit (lits p.e d k).1 d k o).1 d k o2 c p.L p.wl LT K p.S).1.bl, e := { (sqInit (lits p.e d k).1 d k o).1 with r1 := (sqExec (sqInit (lits p.e d k).1 d k o).1 d k o2 c p.L p.wl LT K p.S).1.r1, r2 := (sqExec (sqInit (lits p.e d k).1 d k o).1 d k o2 c p.L p.wl LT K p.S).1.r2, r3 := (sqExec (sqInit (lits p.e d k).1 d k o).1 d k o2 c p.L p.wl LT K p.S).1.r3 } }, (sqExec (sqInit (lits p.e d k).1 d k o).1 d k o2 c p.L p.wl LT K p.S).2)) := by
    unfold cmpBlk
    dsimp only
    rw [← g2, if_neg (Nat.lt_irrefl _), ← hdd]
    rfl
  refine RO_eqv (m' := (rb, rdB x y) :: (cm1 ++ (src.mem q1 ++ rst))) (.cons (by rw [hy]; exact blk_tab rfl rfl rfl rfl) (.refl _)) (fun _ h => J_eqv (.cons (by rw [hy]; exact blk_tab rfl rfl rfl rfl) (.refl _)) h) ?_
  have q2 := (lits_t (G := cm1 ++ G) (Sent.addC cm1 S) rb x y ca k cc hd' (hdv G) (by omega) p.e va vc (fun _ => 0) lm hm fm hlt (by rw [hy]; exact e5) (by rw [hy]; exact e6) (by rw [hy]; exact e10)).freeze
  refine ro_callT q2 ?_ (fm := src.mem q1 ++ (bm ++ (wm ++ (m0 ++ (m1 ++ (m2 ++ jk)))))) (hs := by rw [hrst]; exact .of_perm (by classical exact List.perm_iff_count.2 fun a => by first | (simp only [List.count_append, List.count_cons, List.count_nil]; omega) | (simp only [List.append_eq, List.count_append, List.count_cons, List.count_nil]; omega)))
  rintro v m ⟨mm, ⟨hv', hm', fs', fm', k1, k2, hP⟩, rfl⟩
  have hls := lits_same p.e d k
  have hbadE : ∀ (e' : CE) (y2 : RS) em, cmpBlk dat N p k = ({ p with pos := p.pos + k, bl := 0, e := e' }, false) → SameC s y2 → y2.rv = .iface src.t src.rv → y2.buf = .slice ba 0 bc → ExtC e' y2.ext em → ∀ er, ErrB S er →
      RdM src ExtC rb (cmpBlk dat N p k).1 ((rb, rdB x y2) :: (src.mem q1 ++ (bm ++ (wm ++ em)))) ∧ ((cmpBlk dat N p k).2 = true ∧ er = .nilIface ∨ (cmpBlk dat N p k).2 = false ∧ ErrB S er) := fun e' y2 em h1 h2 h3 h4 h5 er he => by
    rw [h1]
    exact ⟨rdM_of hscr hfl hrem hws hw hx q1 y2 _ p.S 0 e' bm em h2 h3 g1 g3 hSb (Nat.zero_le _) (by rw [h4]; exact hb0) h5, .inr ⟨rfl, he⟩⟩
  cases hL : (lits p.e d k).2 with
  | none =>
    rw [hL] at hP hR
    obtain ⟨er, lm', rfl, he, kp, rfl⟩ := hP
    have he : ErrB S er := he
    obtain ⟨et, eb, eo, rfl⟩ := ErrB.form he
    obtain ⟨lm2, jk2, l1, l2⟩ := LitM.of_in (e4.slIn.keep kp)
    refine go _ ?_
    refine J_ret ?_
    refine ends_retS [4] (post := (rb, rdB x ((y.wHuf hv' (lits p.e d k).1.hb).wFs fs')) :: (src.mem q1 ++ (bm ++ (wm ++ (cm1 ++ (lm2 ++ (hm' ++ (m0 ++ (m1 ++ (m2 ++ (fm' ++ (jk2 ++ jk)))))))))))) (junk := []) (hbadE _ _ _ hR (by rw [hy]; exact ⟨_, _, _, _, _, _, _, _, _, _, _, _, _, _, _, _, _, _, _, rfl⟩) (by rw [hy]) (by rw [hy]) ?_ _ he) rfl (.of_perm ((List.Perm.cons _ ((((l2.append_left fm').append_left hm').append_right cm1).append_right _)).trans (by classical exact List.perm_iff_count.2 fun a => by first | (simp only [List.count_append, List.count_cons, List.count_nil]; omega) | (simp only [List.append_eq, List.count_append, List.count_cons, List.count_nil]; omega))))
    refine ⟨k, _, cm1, lm2, hm', m0, m1, m2, fm', jk2 ++ jk, .refl _, by rw [hy]; exact g4, by omega, hov, by rw [hy]; exact l1, k1, rfl, ?_, ?_, ?_, k2, ?_, ?_⟩
    · rw [hls.1, hy]; exact e7
    · rw [hls.2.1, hy]; exact e8
    · rw [hls.2.2.1, hy]; exact e9
    · rw [hls.2.2.2.1, hls.2.2.2.2.1, hls.2.2.2.2.2, hy]; exact e11
    · exact ⟨by rw [hls.1]; exact e12.t0, by rw [hls.2.1]; exact e12.t1, by rw [hls.2.2.1]; exact e12.t2, by rw [hls.2.2.2.1, hls.2.2.2.2.1, hls.2.2.2.2.2]; exact e12.r⟩
  | some r =>
    obtain ⟨o, K, LT⟩ := r
    obtain ⟨hoK, hKK⟩ := lits_le hL
    rw [hL] at hP hR
    dsimp only at hP hR
    obtain ⟨lv, lm', jk', rfl, u1, kp, rfl⟩ := hP
    obtain ⟨la, lc, rfl⟩ := LtM.form u1
    have hck1 : CEOk (lits p.e d k).1 := ⟨by rw [hls.1]; exact e12.t0, by rw [hls.2.1]; exact e12.t1, by rw [hls.2.2.1]; exact e12.t2, by rw [hls.2.2.2.1, hls.2.2.2.2.1, hls.2.2.2.2.2]; exact e12.r⟩
    have hLT : ∀ i, LT i < 256 := lits_lt hd' (by
      rcases e5 with ⟨_, h, _⟩ | ⟨_, _, h, _⟩
      · exact fun h2 => absurd h h2
      · exact h) hL
    obtain ⟨ee, hee⟩ : ∃ e, e = (lits p.e d k).1 := ⟨_, rfl⟩
    rw [← hee] at hck1 hls k1 hR ⊢
    obtain ⟨y2, hy2⟩ : ∃ y2 : RS, y2 = ((y.wHuf hv' ee.hb).wFs fs').wLit (.slice la K lc) := ⟨_, rfl⟩
    have hT : TabM y2 ee m0 m1 m2 fm' := ⟨by rw [hls.1, hy2, hy]; exact e7, by rw [hls.2.1, hy2, hy]; exact e8, by rw [hls.2.2.1, hy2, hy]; exact e9, by rw [hy2]; exact k2⟩
    refine go _ ?_
    refine RO_eqv (m' := (rb, rdB x y2) :: (cm1 ++ (src.mem q1 ++ (bm ++ (wm ++ (lm' ++ (hm' ++ (m0 ++ (m1 ++ (m2 ++ (fm' ++ (jk' ++ jk)))))))))))) (.trans (.cons (B' := rdB x y2) (by rw [hy2]; exact blk_tab rfl rfl rfl rfl) (.refl _)) (.of_perm (by classical exact List.perm_iff_count.2 fun a => by first | (simp only [List.count_append, List.count_cons, List.count_nil]; omega) | (simp only [List.append_eq, List.count_append, List.count_cons, List.count_nil]; omega)))) (fun _ h => J_eqv (.trans (.cons (B' := rdB x y2) (by rw [hy2]; exact blk_tab rfl rfl rfl rfl) (.refl _)) (.of_perm (by classical exact List.perm_iff_count.2 fun a => by first | (simp only [List.count_append, List.count_cons, List.count_nil]; omega) | (simp only [List.append_eq, List.count_append, List.count_cons, List.count_nil]; omega)))) h) ?_
    have q3 := (init_t (G := cm1 ++ G) (Sent.addC cm1 S) (hB0.mono fun _ h => List.mem_append.2 (.inr h)) (hB2.mono fun _ h => List.mem_append.2 (.inr h)) rb x y2 ca k cc hd' (hdv G) (by omega) o hoK ee m0 m1 m2 fm' hT).freeze
    refine ro_callT q3 ?_ (fm := src.mem q1 ++ (bm ++ (wm ++ (lm' ++ (hm' ++ (jk' ++ jk)))))) (hs := .of_perm (by classical exact List.perm_iff_count.2 fun a => by first | (simp only [List.count_append, List.count_cons, List.count_nil]; omega) | (simp only [List.append_eq, List.count_append, List.count_cons, List.count_nil]; omega)))
    rintro v m ⟨mm, ⟨y3, n0, n1, n2, nf, hO, hT3, rfl, hP3⟩, rfl⟩
    obtain ⟨hck3, hio⟩ := sqInit_ok (d := d) (n := k) (off := o) hd' hck1
    have hss := sqInit_same ee d k o
    obtain ⟨e3', hee3⟩ : ∃ e, e = (sqInit ee d k o).1 := ⟨_, rfl⟩
    rw [← hee3] at hck3 hio hss hT3 hR
    have h3b : y3 = y3.wBuf (.slice ba 0 bc) ∧ SameC s y3 ∧ y3.rv = .iface src.t src.rv ∧ y3.cb = .slice ca k cc ∧ y3.lit = .slice la K lc ∧ y3.ht = hv' ∧ y3.hb = ee.hb ∧ y3.r1 = s.r1 ∧ y3.r2 = s.r2 ∧ y3.r3 = s.r3 ∧ y3.wd = s.wd ∧ y3.wo = s.wo := by
      obtain ⟨_, _, _, _, _, _, _, _, _, _, rfl⟩ := hO
      rw [hy2, hy]
      exact ⟨rfl, ⟨_, _, _, _, _, _, _, _, _, _, _, _, _, _, _, _, _, _, _, rfl⟩, rfl, rfl, rfl, rfl, rfl, rfl, rfl, rfl, rfl, rfl⟩
    obtain ⟨zz1, zz2, zz3, zz4, zz5, zz6, zz7, zz8, zz9, zz10, zz11, zz12⟩ := h3b
    have hext3 : ExtC e3' y3.ext (cm1 ++ (lm' ++ (hm' ++ (n0 ++ (n1 ++ (n2 ++ (nf ++ (jk' ++ jk)))))))) := by
      refine ⟨k, _, cm1, lm', hm', n0, n1, n2, nf, jk' ++ jk, .refl _, by rw [show y3.ext.cb = y3.cb from rfl, zz4]; exact g4, by omega, hov, by rw [show y3.ext.lit = y3.lit from rfl, zz5]; exact LitM.of_lt u1, ?_, ?_, hT3.t0, hT3.t1, hT3.t2, hT3.fs, ?_, hck3⟩
      · rw [hss.1, hss.2.1, show y3.ext.ht = y3.ht from rfl, zz6]; exact k1
      · rw [hss.1, show y3.ext.hb = y3.hb from rfl, zz7]
      · rw [hss.2.2.1, hss.2.2.2.1, hss.2.2.2.2, hls.2.2.2.1, hls.2.2.2.2.1, hls.2.2.2.2.2, show y3.ext.r1 = y3.r1 from rfl, show y3.ext.r2 = y3.r2 from rfl, show y3.ext.r3 = y3.r3 from rfl, zz8, zz9, zz10]; exact e11
    cases hI : (sqInit ee d k o).2 with
    | none =>
      rw [hI] at hP3 hR
      obtain ⟨er, rfl, he⟩ := hP3
      obtain ⟨b', rfl⟩ := he
      refine go _ ?_
      refine J_ret ?_
      exact ends_retS [4] (post := (rb, rdB x y3) :: (src.mem q1 ++ (bm ++ (wm ++ (cm1 ++ (lm' ++ (hm' ++ (n0 ++ (n1 ++ (n2 ++ (nf ++ (jk' ++ jk)))))))))))) (junk := []) (hbadE _ _ _ hR zz2 zz3 (by rw [zz1]) hext3 _ (.inl ⟨b', rfl⟩)) rfl (.of_perm (by classical exact List.perm_iff_count.2 fun a => by first | (simp only [List.count_append, List.count_cons, List.count_nil]; omega) | (simp only [List.append_eq, List.count_append, List.count_cons, List.count_nil]; omega)))
    | some r3 =>
      obtain ⟨cn, o2⟩ := r3
      obtain ⟨ho2, hcn, hTT⟩ := hio cn o2 hI
      rw [hI] at hP3 hR
      dsimp only at hP3 hR
      subst hP3
      refine go _ ?_
      refine J_eqv (m' := (rb, rdB x (y3.wBuf (.slice ba 0 bc))) :: (src.mem q1 ++ (bm ++ (wm ++ (cm1 ++ (lm' ++ (hm' ++ (n0 ++ (n1 ++ (n2 ++ (nf ++ (jk' ++ jk)))))))))))) (by rw [← zz1]; exact .of_perm (by classical exact List.perm_iff_count.2 fun a => by first | (simp only [List.count_append, List.count_cons, List.count_nil]; omega) | (simp only [List.append_eq, List.count_append, List.count_cons, List.count_nil]; omega))) ?_
      refine J_condP rfl (fun hc0 => ?_) (fun hc0 => ?_)
      · rw [if_pos (by omega)] at hR
        refine go _ ?_
        refine J_condP rfl (fun hsh => ?_) (fun hful => ?_)
        · rw [if_pos (by omega)] at hR
          refine go _ ?_
          refine ro_callT (merr_t S rb x _ _ _) ?_
          rintro v m ⟨⟨b', rfl⟩, rfl⟩
          refine go _ ?_
          refine J_ret ?_
          exact ends_retS [4] (post := (rb, rdB x (y3.wBuf (.slice ba 0 bc))) :: (src.mem q1 ++ (bm ++ (wm ++ (cm1 ++ (lm' ++ (hm' ++ (n0 ++ (n1 ++ (n2 ++ (nf ++ (jk' ++ jk)))))))))))) (junk := []) (by rw [← zz1]; exact hbadE _ _ _ hR zz2 zz3 (by rw [zz1]) hext3 _ (.inl ⟨b', rfl⟩)) rfl (by rw [List.append_nil]; exact .refl _)
        · rw [if_neg (by omega)] at hR
          refine go _ ?_
          refine ro_appV (len := 0) (S := p.S) (X := LT) (sm := bm) (fm := (rb, rdB x (y3.wBuf (.slice ba 0 bc))) :: (src.mem q1 ++ (wm ++ (cm1 ++ (lm' ++ (hm' ++ (n0 ++ (n1 ++ (n2 ++ (nf ++ (jk' ++ jk))))))))))) rfl rfl rfl rfl z5 (by decide) rfl rfl hb0 ((by classical exact List.perm_iff_count.2 fun a => by first | (simp only [List.count_append, List.count_cons, List.count_nil]; omega) | (simp only [List.append_eq, List.count_append, List.count_cons, List.count_nil]; omega))) rfl (LtM.view u1 fun _ h => by simp [h]) (by omega) hex rfl ?_
          intro oa' cp' bm' hb5
          rw [show 0 + K = K from Nat.zero_add K] at hb5 ⊢
          refine go _ ?_
          refine J_ret ?_
          exact ends_retS [4] (post := (rb, rdB x (y3.wBuf (.slice oa' K cp'))) :: (src.mem q1 ++ (bm' ++ (wm ++ (cm1 ++ (lm' ++ (hm' ++ (n0 ++ (n1 ++ (n2 ++ (nf ++ (jk' ++ jk)))))))))))) (junk := []) ⟨by rw [hR]; exact rdM_of hscr hfl hrem hws hw hx q1 (y3.wBuf (.slice oa' K cp')) _ (apD p.S 0 K LT) K e3' bm' _ (zz2.buf _) zz3 g1 g3 (apD_lt hSb hLT) (by omega) hb5 hext3, .inl ⟨by rw [hR], rfl⟩⟩ rfl (.trans (.cons (B' := rdB x (y3.wBuf (.slice oa' K cp'))) (blk_tab rfl rfl rfl rfl) (.refl _)) (.of_perm (by classical exact List.perm_iff_count.2 fun a => by first | (simp only [List.count_append, List.count_cons, List.count_nil]; omega) | (simp only [List.append_eq, List.count_append, List.count_cons, List.count_nil]; omega))))
      · rw [if_neg (by omega)] at hR
        obtain ⟨T0, T1, T2, t0, t1, t2⟩ := hTT (by omega)
        have hk0 : 0 < k := by
          rcases Nat.eq_zero_or_pos k with h | h
          · rw [h] at hL; exact absurd hL (by unfold lits; rw [if_pos rfl]; exact fun h => by cases h)
          · exact h
        obtain ⟨F, hF⟩ : ∃ F, F = cm1 ++ (wm ++ (lm' ++ (n0 ++ (n1 ++ n2)))) := ⟨_, rfl⟩
        obtain ⟨wa, wcp, ph, w1, w2, w3, w4, w5⟩ := hw.view (M := F ++ G) (fun _ h => by simp [hF, h])
        have hdv4 : View (F ++ G) ca k cc d := (hdv []).mono fun _ h => by simp at h; simp [hF, h]
        have hlv4 : View (F ++ G) la K lc LT := LtM.view u1 fun _ h => by simp [hF, h]
        have hv0 : TabV (F ++ G) y3.st0 y3.sb0 T0 := TabV.of (by rw [← t0]; exact hT3.t0) fun _ h => by simp [hF, h]
        have hv1 : TabV (F ++ G) y3.st1 y3.sb1 T1 := TabV.of (by rw [← t1]; exact hT3.t1) fun _ h => by simp [hF, h]
        have hv2 : TabV (F ++ G) y3.st2 y3.sb2 T2 := TabV.of (by rw [← t2]; exact hT3.t2) fun _ h => by simp [hF, h]
        have hrs : y3.r1 = e3'.r1 ∧ y3.r2 = e3'.r2 ∧ y3.r3 = e3'.r3 := by
          rw [hss.2.2.1, hss.2.2.2.1, hss.2.2.2.2, hls.2.2.2.1, hls.2.2.2.2.1, hls.2.2.2.2.2, zz8, zz9, zz10]; exact e11
        have q4 := (exec_t (G := F ++ G) (Sent.addC F S) rb x (y3.wBuf (.slice ba 0 bc)) ca k cc hd' hdv4 (by omega) hk0 o2 ho2 T0 T1 T2 e3' t0 t1 t2 hrs.1 hrs.2.1 hrs.2.2 hck3.r (hck3.t0 _ t0) (hck3.t1 _ t1) (hck3.t2 _ t2) hv0 hv1 hv2 wa p.wl wcp ph (by show y3.wd = _; rw [zz11]; exact w1) w2 (by show y3.wo ≤ _; rw [zz12]; exact w3) (by have := hcan.1; omega) la K lc LT hlv4 (by omega) cn hcn ba bc p.S bm rfl hb0).freeze
        refine go _ ?_
        refine ro_callT q4 ?_ (fm := src.mem q1 ++ (hm' ++ (nf ++ (jk' ++ jk)))) (hs := by rw [hF]; exact .of_perm (by classical exact List.perm_iff_count.2 fun a => by first | (simp only [List.count_append, List.count_cons, List.count_nil]; omega) | (simp only [List.append_eq, List.count_append, List.count_cons, List.count_nil]; omega)))
        rintro v m ⟨mm, hP4, rfl⟩
        obtain ⟨R, hRR⟩ : ∃ R, R = sqExec e3' d k o2 cn p.L p.wl LT K p.S := ⟨_, rfl⟩
        have hRe : sqExec e3' d k o2 cn (winF ph (y3.wBuf (.slice ba 0 bc)).wo p.wl) p.wl LT K p.S = R := by
          rw [hRR]
          refine (sqExec_congr (fun i hi => ?_) _ _ _ _ _).symm
          rw [w5 i hi]
          show _ = winF ph y3.wo p.wl i
          rw [zz12]
        rw [hRe] at hP4
        have hRl : ∀ i, R.1.S i < 256 := by rw [hRR]; exact (sqExec_inv hck3 hcan.2 hLT hSb hKK).1
        have hRb : R.1.bl ≤ 2 ^ 30 := by rw [hRR]; exact (sqExec_inv hck3 hcan.2 hLT hSb hKK).2.1
        have hRr : R.1.r1 < 4294967296 ∧ R.1.r2 < 4294967296 ∧ R.1.r3 < 4294967296 := by rw [hRR]; exact (sqExec_inv hck3 hcan.2 hLT hSb hKK).2.2
        rw [← hRR] at hR
        obtain ⟨oa', cp', bm', hb6, rfl, hv6⟩ := hP4
        obtain ⟨y5, hy5⟩ : ∃ y5, y5 = (y3.wBuf (.slice ba 0 bc)).wX oa' R.1.bl cp' R.1.r1 R.1.r2 R.1.r3 := ⟨_, rfl⟩
        rw [← hy5]
        have hext5 : ExtC { e3' with r1 := R.1.r1, r2 := R.1.r2, r3 := R.1.r3 } y5.ext (cm1 ++ (lm' ++ (hm' ++ (n0 ++ (n1 ++ (n2 ++ (nf ++ (jk' ++ jk)))))))) := by
          refine ⟨k, _, cm1, lm', hm', n0, n1, n2, nf, jk' ++ jk, .refl _, by rw [hy5, show ((y3.wBuf (.slice ba 0 bc)).wX oa' R.1.bl cp' R.1.r1 R.1.r2 R.1.r3).ext.cb = y3.cb from rfl, zz4]; exact g4, by omega, hov, by rw [hy5, show ((y3.wBuf (.slice ba 0 bc)).wX oa' R.1.bl cp' R.1.r1 R.1.r2 R.1.r3).ext.lit = y3.lit from rfl, zz5]; exact LitM.of_lt u1, ?_, ?_, by rw [hy5]; exact hT3.t0, by rw [hy5]; exact hT3.t1, by rw [hy5]; exact hT3.t2, by rw [hy5]; exact hT3.fs, by rw [hy5]; exact ⟨rfl, rfl, rfl⟩, ⟨hck3.t0, hck3.t1, hck3.t2, hRr⟩⟩
          · rw [hy5, show ((y3.wBuf (.slice ba 0 bc)).wX oa' R.1.bl cp' R.1.r1 R.1.r2 R.1.r3).ext.ht = y3.ht from rfl, zz6]
            dsimp only
            rw [hss.1, hss.2.1]; exact k1
          · rw [hy5, show ((y3.wBuf (.slice ba 0 bc)).wX oa' R.1.bl cp' R.1.r1 R.1.r2 R.1.r3).ext.hb = y3.hb from rfl, zz7]
            exact hss.1.symm
        have hfin5 : RdM src ExtC rb (cmpBlk dat N p k).1 ((rb, rdB x y5) :: (src.mem q1 ++ (bm' ++ (wm ++ (cm1 ++ (lm' ++ (hm' ++ (n0 ++ (n1 ++ (n2 ++ (nf ++ (jk' ++ jk)))))))))))) := by
          rw [hR]
          exact rdM_of hscr hfl hrem hws hw hx q1 y5 _ R.1.S R.1.bl _ bm' _ (by rw [hy5]; exact (zz2.buf _).wX _ _ _ _ _ _) (by rw [hy5]; exact zz3) g1 g3 hRl hRb (by rw [hy5]; exact hb6) hext5
        have hR2 : (cmpBlk dat N p k).2 = R.2 := by rw [hR]
        cases hb2 : R.2 with
        | true =>
          rw [hb2, if_pos rfl] at hv6
          subst hv6
          refine go _ ?_
          refine J_ret ?_
          exact ends_retS [4] (post := (rb, rdB x y5) :: (src.mem q1 ++ (bm' ++ (wm ++ (cm1 ++ (lm' ++ (hm' ++ (n0 ++ (n1 ++ (n2 ++ (nf ++ (jk' ++ jk)))))))))))) (junk := []) ⟨hfin5, .inl ⟨hR2.trans hb2, rfl⟩⟩ rfl (.of_perm (by rw [hF]; exact (by classical exact List.perm_iff_count.2 fun a => by first | (simp only [List.count_append, List.count_cons, List.count_nil]; omega) | (simp only [List.append_eq, List.count_append, List.count_cons, List.count_nil]; omega))))
        | false =>
          rw [hb2, if_neg (fun h => by cases h)] at hv6
          obtain ⟨b', rfl⟩ := hv6
          refine go _ ?_
          refine J_ret ?_
          exact ends_retS [4] (post := (rb, rdB x y5) :: (src.mem q1 ++ (bm' ++ (wm ++ (cm1 ++ (lm' ++ (hm' ++ (n0 ++ (n1 ++ (n2 ++ (nf ++ (jk' ++ jk)))))))))))) (junk := []) ⟨hfin5, .inr ⟨hR2.trans hb2, .inl ⟨b', rfl⟩⟩⟩ rfl (.of_perm (by rw [hF]; exact (by classical exact List.perm_iff_count.2 fun a => by first | (simp only [List.count_append, List.count_cons, List.count_nil]; omega) | (simp only [List.append_eq, List.count_append, List.count_cons, List.count_nil]; omega))))
end Go.Proofs.YtogmacnlpclgkaaDoor

/-! COMPRESSED BLOCKS 29: states that a decoder goes through. -/
namespace Go.Proofs.YtogmacnlpclgkaaDoor
open Go Go.Eng Go.Pz
set_option maxRecDepth 20000
variable {dat : Nat → Nat} {N : Nat} {d : Nat → Nat}

structure EOk (e : CE) : Prop where
  ce : CEOk e
  ht : e.hb ≠ 0 → HtB e.hb e.ht
theorem lits_ht {e : CE} {n : Nat} (hd : ∀ i, d i < 256) (he : e.hb ≠ 0 → HtB e.hb e.ht) : (lits e d n).1.hb ≠ 0 → HtB (lits e d n).1.hb (lits e d n).1.ht := by
  unfold lits
  split
  · exact he
  split
  · exact he
  unfold litHuf
  dsimp only
  split
  · exact he
  split
  · exact he
  split
  · exact he
  split
  · split
    · exact he
    · rename_i g b q hq
      have := (hufRead_ok hd hq).1
      split <;> exact fun _ => this
  · split <;> exact he
theorem lits_eok {e : CE} {n : Nat} (hd : ∀ i, d i < 256) (he : EOk e) : EOk (lits e d n).1 := by
  have h := lits_same e d n
  exact ⟨⟨by rw [h.1]; exact he.ce.t0, by rw [h.2.1]; exact he.ce.t1, by rw [h.2.2.1]; exact he.ce.t2, by rw [h.2.2.2.1, h.2.2.2.2.1, h.2.2.2.2.2]; exact he.ce.r⟩, lits_ht hd he.ht⟩
theorem sqInit_eok {e : CE} {n off : Nat} (hd : ∀ i, d i < 256) (he : EOk e) : EOk (sqInit e d n off).1 := by
  have h := sqInit_same e d n off
  exact ⟨(sqInit_ok hd he.ce).1, by rw [h.1, h.2.1]; exact he.ht⟩
/-- A state, as the proofs need it. -/
structure POk (p : PS CE) : Prop where
  s : ∀ i, p.S i < 256
  l : ∀ i, p.L i < 256
  e : EOk p.e
  w : p.wsz ≤ 2 ^ 27
theorem cmpBlk_ok (hd : ∀ i, dat i < 256) {p : PS CE} {size : Nat} (hp : POk p) : POk (cmpBlk dat N p size).1 := by
  unfold cmpBlk
  dsimp only
  have hd' : ∀ i, dat (p.pos + i) < 256 := fun i => hd _
  have h1 := lits_eok (n := size) hd' hp.e
  have h2 : ∀ o K LT, (lits p.e (fun i => dat (p.pos + i)) size).2 = some (o, K, LT) → ∀ i, LT i < 256 := fun o K LT h => lits_lt hd' hp.e.ht h
  have h2' : ∀ o K LT, (lits p.e (fun i => dat (p.pos + i)) size).2 = some (o, K, LT) → K ≤ 131072 := fun o K LT h => (lits_le h).2
  split
  · exact ⟨hp.s, hp.l, hp.e, hp.w⟩
  split
  · exact ⟨hp.s, hp.l, h1, hp.w⟩
  · rename_i o K LT hL
    have hLT := h2 _ _ _ hL
    have hKK := h2' _ _ _ hL
    have h3 := sqInit_eok (n := size) (off := o) hd' h1
    split
    · exact ⟨hp.s, hp.l, h3, hp.w⟩
    · split
      · split
        · exact ⟨hp.s, hp.l, h3, hp.w⟩
        · exact ⟨apD_lt hp.s hLT, hp.l, h3, hp.w⟩
      · rename_i c o2 _ _
        have h4 := sqExec_inv (d := fun i => dat (p.pos + i)) (n := size) (off := o2) (cnt := c) (wl := p.wl) h3.ce hp.l hLT hp.s hKK
        exact ⟨h4.1, hp.l, ⟨⟨h3.ce.t0, h3.ce.t1, h3.ce.t2, h4.2.2⟩, h3.ht⟩, hp.w⟩
theorem catF_lt {L T : Nat → Nat} {n : Nat} (h : ∀ i, L i < 256) (h' : ∀ i, T i < 256) : ∀ i, catF L n T i < 256 := fun i => by unfold catF; split; exact h _; exact h' _
theorem rdEnd_ok {last : Bool} {p : PS CE} (hp : POk p) : POk (rdEnd dat N last p).1 := by
  unfold rdEnd
  dsimp only
  repeat' split
  all_goals first
    | exact ⟨hp.s, hp.l, hp.e, hp.w⟩
    | exact ⟨hp.s, fun i => catF_lt hp.l hp.s _, hp.e, hp.w⟩
theorem rdBlk_ok (hd : ∀ i, dat i < 256) {p : PS CE} (hp : POk p) : POk (rdBlk dat N (cmpBlk dat N) p).1 := by
  unfold rdBlk
  dsimp only
  split
  · exact ⟨hp.s, hp.l, hp.e, hp.w⟩
  split
  · exact ⟨hp.s, hp.l, hp.e, hp.w⟩
  split
  · split
    · exact ⟨ov_lt hp.s hd _ _, hp.l, hp.e, hp.w⟩
    · exact rdEnd_ok ⟨ov_lt hp.s hd _ _, hp.l, hp.e, hp.w⟩
  split
  · split
    · exact ⟨hp.s, hp.l, hp.e, hp.w⟩
    · exact rdEnd_ok ⟨fun i => by dsimp only; split; exact hd _; exact hp.s _, hp.l, hp.e, hp.w⟩
  split
  · have h := cmpBlk_ok (N := N) (size := hdr3 dat p.pos / 8) hd (p := { p with pos := p.pos + 3 }) ⟨hp.s, hp.l, hp.e, hp.w⟩
    split
    · exact rdEnd_ok h
    · exact h
  · exact ⟨hp.s, hp.l, hp.e, hp.w⟩
theorem eok_ini {e : CE} (_h : EOk e) : EOk e.ini := ⟨CEOk.ini e, fun h => absurd rfl h⟩
theorem rdHd_ok {p : PS CE} (hp : POk p) : POk (rdHd dat N CE.ini p).1 := by
  unfold rdHd
  split
  · exact hp
  unfold rdHdr
  cases hh : hdrAt dat N (skipTo dat N N p.pos) with
  | short => exact ⟨hp.s, hp.l, hp.e, hp.w⟩
  | bad b pos => cases b <;> exact ⟨hp.s, hp.l, hp.e, hp.w⟩
  | ok sum known size win pos =>
    have := (hdrAt_ok dat N hh).2.1
    exact ⟨hp.s, hp.l, eok_ini hp.e, by dsimp only; omega⟩
theorem rdFill_ok (hd : ∀ i, dat i < 256) {p : PS CE} (hp : POk p) : POk (rdFill dat N CE.ini (cmpBlk dat N) p).1 := by
  unfold rdFill
  split
  · exact rdBlk_ok hd (rdHd_ok hp)
  · exact rdHd_ok hp
theorem rdNeed_ok (hd : ∀ i, dat i < 256) : ∀ (f : Nat) {p : PS CE}, POk p → POk (rdNeed dat N CE.ini (cmpBlk dat N) f p).1
  | 0, _, h => h
  | f + 1, p, h => by
    have h1 := rdFill_ok (N := N) hd h
    rw [rdNeed]
    split
    · exact h
    split
    · exact rdNeed_ok hd f ⟨h1.s, h1.l, h1.e, h1.w⟩
    · exact h1
/-- .. behind errors too. -/
theorem rdRead_ok (hd : ∀ i, dat i < 256) (n : Nat) {p : PS CE} (hp : POk p) : POk (rdRead dat N CE.ini (cmpBlk dat N) n p).1 := by
  have h := rdNeed_ok (N := N) hd (N + 1) hp
  unfold rdRead
  split
  · exact ⟨h.s, h.l, h.e, h.w⟩
  · exact h
theorem cmp_oks (hd : ∀ i, dat i < 256) : OkS dat N CE.ini (cmpBlk dat N) (fun p _ => p.wsz ≤ 2 ^ 27 ∧ ∀ i, p.L i < 256) POk where
  can := fun _ hp _ _ _ => ⟨(rdHd_ok hp).w, (rdHd_ok hp).l⟩
  fill := fun _ hp _ => by
    have h := rdFill_ok (N := N) hd hp
    exact ⟨h.s, h.l, h.e, h.w⟩
  off := fun _ _ hp => ⟨hp.s, hp.l, hp.e, hp.w⟩
theorem pok_init : POk (PS.init CE.zero) := ⟨fun _ => by show 0 < 256; omega, fun _ => by show 0 < 256; omega, ⟨⟨fun _ h => (by cases h), fun _ h => (by cases h), fun _ h => (by cases h), by decide, by decide, by decide⟩, fun h => absurd rfl h⟩, Nat.zero_le _⟩
end Go.Proofs.YtogmacnlpclgkaaDoor

/-! COMPRESSED BLOCKS 30: ReadByte. -/
namespace Go.Proofs.YtogmacnlpclgkaaDoor
open Go Go.Eng Go.Pz
attribute [local irreducible] RO J Trip Quiet
set_option maxRecDepth 20000
variable {G : Mem} {S : Sent G} {dat : Nat → Nat} {N : Nat}

/-- ReadByte: the state behind it, how it ends; the byte. -/
def rdByte (dat : Nat → Nat) (N : Nat) {E : Type} (ini : E → E) (cmp : PS E → Nat → PS E × Bool) (p : PS E) : PS E × Nat × Nat :=
  if (rdNeed dat N ini cmp (N + 1) p).2 = 0 then
    ({ (rdNeed dat N ini cmp (N + 1) p).1 with off := (rdNeed dat N ini cmp (N + 1) p).1.off + 1 }, 0, (rdNeed dat N ini cmp (N + 1) p).1.S (rdNeed dat N ini cmp (N + 1) p).1.off)
  else ((rdNeed dat N ini cmp (N + 1) p).1, (rdNeed dat N ini cmp (N + 1) p).2, 0)

theorem readByte_t (src : Source S dat N) (hd : ∀ i, dat i < 256) (hsk : SkipT src) {E : Type} (Ext : E → RX → Mem → Prop) (cmp : PS E → Nat → PS E × Bool) (can : PS E → Nat → Prop) (hcmp : CmpT src Ext cmp can) (hgo : CmpGo N cmp)
    (ini : E → E) (hini : ∀ e x em, Ext e x em → Ext (ini e) x.ini em) (fb : Blk) (hfb : (2, fb) ∈ G) (hfn : 0 < fb.n) (hfv : fb.g 0 = .bool false) (hN : N ≤ 2 ^ 62)
    (Ok : PS E → Prop) (hOk : OkS dat N ini cmp can Ok) (rb : Nat) (p : PS E) (m : Mem) (hm : RdM src Ext rb p m) (hp : Ok p) :
    Trip Tryd.prog G 33 #[.pointer (some ⟨rb, 0, none⟩)] m (fun v m' => ∃ e, RdM src Ext rb (rdByte dat N ini cmp p).1 m' ∧
      v = .tuple #[.int .u8 ((rdByte dat N ini cmp p).2.2 : Nat), e] ∧ EndV S (rdByte dat N ini cmp p).2.1 e) := by
  refine Trip_of Tryd.func33 rfl (by show 1 ≤ _; decide) (args := [.pointer (some ⟨rb, 0, none⟩)]) fun c h0 hex => ?_
  refine go _ ?_
  refine ro_callT (rneed_t src hd hsk Ext cmp can hcmp hgo ini hini fb hfb hfn hfv hN Ok hOk rb p m hm hp) ?_ (fm := []) (hs := by rw [List.append_nil]; exact .refl _)
  rintro v m2 ⟨hm2, hv, hk⟩
  rw [List.append_nil]
  unfold rdByte
  generalize rdNeed dat N ini cmp (N + 1) p = r at hm2 hv hk ⊢
  rcases hv with ⟨hc, rfl⟩ | ⟨hc, he⟩ | ⟨hc, he⟩
  · obtain ⟨hok', hlt⟩ := hk hc
    simp only [hc, if_true]
    obtain ⟨p1, k⟩ := r
    dsimp only at hm2 hc hok' hlt ⊢
    obtain ⟨x, s, q0, bm, wm, em, rfl, hok, hpos, hrv, hscr, hfl, hrem, hSb, hbl, hws, hb, hw, hx, hext⟩ := hm2
    obtain ⟨oa, cp, hbv⟩ := BufM.form hb
    have hoff := hfl.2.2.2.2.2.1
    obtain ⟨s, rfl⟩ : ∃ s' : RS, s = (s'.wBuf (.slice oa p1.bl cp)).wOff p1.off := ⟨s, by cases s; simp only at hbv hoff; rw [hbv, hoff]⟩
    rcases hb with ⟨h1, h2, _⟩ | ⟨bb, cap, BB, h1, rfl, h3, h4, h5, h6, h7⟩
    · omega
    · cases h1
      refine go _ ?_
      refine RO_eqv (m' := (rb, rdB x ((s.wBuf (.slice (some ⟨bb, 0, none⟩) p1.bl cp)).wOff p1.off)) :: (bb, BB) :: (src.mem q0 ++ (wm ++ em))) (.of_perm (by classical exact List.perm_iff_count.2 fun a => by first | (simp only [List.count_append, List.count_cons, List.count_nil]; omega) | (simp only [List.append_eq, List.count_append, List.count_cons, List.count_nil]; omega))) (fun _ h => J_eqv (.of_perm (by classical exact List.perm_iff_count.2 fun a => by first | (simp only [List.count_append, List.count_cons, List.count_nil]; omega) | (simp only [List.append_eq, List.count_append, List.count_cons, List.count_nil]; omega))) h) ?_
      refine ro_loadI (v := .int .u8 (p1.S p1.off : Nat)) rfl rfl (.there .here) (show 0 + p1.off < BB.n by omega) (by rw [Nat.zero_add, h6 _ (by omega)]; rfl) rfl ?_
      refine go _ ?_
      refine J_ret ?_
      refine ends_retS [2, 3] (post := (rb, rdB x (((s.wBuf (.slice (some ⟨bb, 0, none⟩) p1.bl cp)).wOff p1.off).wOff (p1.off + 1))) :: (src.mem q0 ++ ([(bb, BB)] ++ (wm ++ em)))) (junk := []) ⟨.nilIface, ⟨x, _, q0, [(bb, BB)], wm, em, rfl, hok, hpos, hrv, hscr, ⟨hfl.1, hfl.2.1, hfl.2.2.1, hfl.2.2.2.1, hfl.2.2.2.2.1, rfl, hfl.2.2.2.2.2.2⟩, hrem, hSb, hbl, hws, .inr ⟨bb, _, BB, rfl, rfl, h3, h4, h5, h6, h7⟩, hw, fun h => ⟨(hx h).len, (hx h).acc, (hx h).cnt, (hx h).buf, (hx h).byte⟩, hext⟩, rfl, .inl ⟨rfl, rfl⟩⟩ rfl (.trans (.cons (B' := rdB x (((s.wBuf (.slice (some ⟨bb, 0, none⟩) p1.bl cp)).wOff p1.off).wOff (p1.off + 1))) (blk_tab rfl rfl rfl rfl) (.refl _)) (.of_perm (by classical exact List.perm_iff_count.2 fun a => by first | (simp only [List.count_append, List.count_cons, List.count_nil]; omega) | (simp only [List.append_eq, List.count_append, List.count_cons, List.count_nil]; omega))))
  · rw [if_neg (by rw [hc]; decide)]
    obtain rfl : v = .iface 122 (.pointer (some ⟨S.eb, S.eo, none⟩)) := he
    refine go _ ?_
    refine J_ret ?_
    exact ends_retS [2, 3] (post := m2) (junk := []) ⟨_, hm2, rfl, .inr (.inl ⟨hc, rfl⟩)⟩ rfl (by rw [List.append_nil]; exact MEqv.refl _)
  · rw [if_neg (by rw [hc]; decide)]
    obtain ⟨et, b', eo, rfl⟩ := ErrB.form he
    refine go _ ?_
    refine J_ret ?_
    exact ends_retS [2, 3] (post := m2) (junk := []) ⟨_, hm2, rfl, .inr (.inr ⟨hc, he⟩)⟩ rfl (by rw [List.append_nil]; exact MEqv.refl _)
end Go.Proofs.YtogmacnlpclgkaaDoor
