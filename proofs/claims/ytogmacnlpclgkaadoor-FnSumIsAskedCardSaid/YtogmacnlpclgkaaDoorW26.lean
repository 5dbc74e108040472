/-
  WALKS 26: Read.
-/
import Derived.Test.YtogmacnlpclgkaaDoorW25
namespace Go.Proofs.YtogmacnlpclgkaaDoor
open Go Go.Eng
attribute [local irreducible] RO J Trip Quiet
set_option maxRecDepth 20000
variable {G : Mem} {S : Sent G} {dat : Nat → Nat} {N : Nat}

theorem read_t (src : Source S dat N) (hd : ∀ i, dat i < 256) (hsk : SkipT src) {E : Type} (Ext : E → RX → Mem → Prop) (cmp : PS E → Nat → PS E × Bool) (can : PS E → Nat → Prop) (hcmp : CmpT src Ext cmp can) (hgo : CmpGo N cmp)
    (ini : E → E) (hini : ∀ e x em, Ext e x em → Ext (ini e) x.ini em) (fb : Blk) (hfb : (2, fb) ∈ G) (hfn : 0 < fb.n) (hfv : fb.g 0 = .bool false) (hN : N ≤ 2 ^ 62)
    (Ok : PS E → Prop) (hOk : OkS dat N ini cmp can Ok) (rb : Nat) (p : PS E) (m : Mem) (hm : RdM src Ext rb p m) (hp : Ok p) (pb po n cap : Nat) (B : Blk) (hfr : B.fr = (0, 0)) (ho : po + n ≤ B.n) (hn : n ≤ 2 ^ 40) :
    Trip Tryd.prog G 35 #[.pointer (some ⟨rb, 0, none⟩), .slice (some ⟨pb, po, none⟩) n cap] ((pb, B) :: m) (fun v m' => ∃ m2 e, RdM src Ext rb (rdRead dat N ini cmp n p).1 m2 ∧
      m' = (pb, ⟨B.n, blit B.g po (rdRead dat N ini cmp n p).2.1 (u8f (rdGot dat N ini cmp p)), B.T, B.fr⟩) :: m2 ∧ v = .tuple #[.int .i64 ((rdRead dat N ini cmp n p).2.1 : Nat), e] ∧ EndV S (rdRead dat N ini cmp n p).2.2 e ∧
      ((rdRead dat N ini cmp n p).2.2 = 0 → Ok (rdRead dat N ini cmp n p).1)) := by
  refine Trip_of Tryd.func35 rfl (by show 2 ≤ _; decide) (args := [.pointer (some ⟨rb, 0, none⟩), .slice (some ⟨pb, po, none⟩) n cap]) fun c h0 hex => ?_
  refine go _ ?_
  refine ro_callT (rneed_t src hd hsk Ext cmp can hcmp hgo ini hini fb hfb hfn hfv hN Ok hOk rb p m hm hp) ?_ (fm := [(pb, B)]) (hs := swap1 _ _)
  rintro v m2 ⟨hm2, hv, hk⟩
  unfold rdRead rdGot
  generalize rdNeed dat N ini cmp (N + 1) p = r at hm2 hv hk ⊢
  refine RO_eqv (swap1 _ _).symm (fun _ h => J_eqv (swap1 _ _).symm h) ?_
  rcases hv with ⟨hc, rfl⟩ | ⟨hc, he⟩ | ⟨hc, he⟩
  · obtain ⟨hok', hlt⟩ := hk hc
    simp only [hc, if_true]
    obtain ⟨p1, k⟩ := r
    dsimp only at hm2 hc hok' hlt ⊢
    obtain ⟨x, s, q0, bm, wm, em, rfl, hok, hpos, hrv, hscr, hfl, hrem, hSb, hbl, hws, hb, hw, hx, hext⟩ := hm2
    obtain ⟨oa, cp, hbv, hview⟩ := bufForm hb
    have hoff := hfl.2.2.2.2.2.1
    obtain ⟨s, rfl⟩ : ∃ s' : RS, s = (s'.wBuf (.slice oa p1.bl cp)).wOff p1.off := ⟨s, by cases s; simp only at hbv hoff; rw [hbv, hoff]⟩
    have hv0 := hview []
    have hcp := hv0.le
    refine go _ ?_
    refine ro_slV p1.off p1.bl hv0 rfl rfl rfl rfl rfl rfl rfl (by omega) hcp rfl ?_
    obtain ⟨sf, hsrc, hsr⟩ := (hv0.sub (l := p1.off) (h := p1.bl) (by omega) (Nat.le_refl _)).src
    refine go _ ?_
    refine ro_copy (s := 0) (k := p1.bl - p1.off) (src := sf) rfl rfl rfl rfl (hsrc.imp (fun ⟨b, o, cp, B, h1, h2, h3, h4⟩ => ⟨b, o, cp, B, h1, by rw [List.append_nil] at h2; simp [h2], h3, h4⟩) id) (fun j hj => by rw [hsr j (by omega)]; rfl) .here hfr (by omega) hex rfl ?_
    rw [show min (p1.bl - p1.off) n = min n (p1.bl - p1.off) from Nat.min_comm _ _]
    have k1 : min n (p1.bl - p1.off) ≤ n := Nat.min_le_left _ _
    have k2 : min n (p1.bl - p1.off) ≤ p1.bl - p1.off := Nat.min_le_right _ _
    generalize min n (p1.bl - p1.off) = kk at *
    refine go _ ?_
    refine J_ret ?_
    refine ends_retS [4, 5] (post := (pb, ⟨B.n, blit B.g po kk (u8f fun i => p1.S (p1.off + i)), B.T, B.fr⟩) :: (rb, rdB x ((s.wBuf (.slice oa p1.bl cp)).wOff (p1.off + kk))) :: (src.mem q0 ++ (bm ++ (wm ++ em)))) (junk := [])
      ⟨_, .nilIface, ?_, rfl, rfl, .inl ⟨rfl, rfl⟩, fun _ => hOk.off _ _ hok'⟩ rfl ?_
    · exact ⟨x, _, q0, bm, wm, em, rfl, hok, hpos, hrv, hscr, ⟨hfl.1, hfl.2.1, hfl.2.2.1, hfl.2.2.2.1, hfl.2.2.2.2.1, rfl, hfl.2.2.2.2.2.2⟩, hrem, hSb, hbl, hws, hb, hw, fun h => ⟨(hx h).len, (hx h).acc, (hx h).cnt, (hx h).buf, (hx h).byte⟩, hext⟩
    · rw [List.append_nil]
      refine .cons (obj_congr fun i _ => ?_) (.cons (rd_8n _ _ _) (.refl _))
      show blit B.g po (kk * (0 + 1)) sf i = blit B.g po kk (u8f fun i => p1.S (p1.off + i)) i
      rw [show kk * (0 + 1) = kk by omega]
      by_cases hi : po ≤ i ∧ i < po + kk
      · rw [blit_in _ _ _ _ _ hi.1 hi.2, blit_in _ _ _ _ _ hi.1 hi.2, hsr _ (by omega)]; rfl
      · rw [blit_out _ _ _ _ _ (by omega), blit_out _ _ _ _ _ (by omega)]
  · rw [if_neg (by rw [hc]; decide)]
    obtain rfl : v = .iface 122 (.pointer (some ⟨S.eb, S.eo, none⟩)) := he
    refine go _ ?_
    refine J_ret ?_
    refine ends_retS [4, 5] (post := (pb, B) :: m2) (junk := []) ⟨m2, _, hm2, by rw [blit_zero], rfl, .inr (.inl ⟨hc, rfl⟩), fun h => ?_⟩ rfl (by rw [List.append_nil]; exact MEqv.refl _)
    dsimp only at h; rw [hc] at h; exact absurd h (by decide)
  · rw [if_neg (by rw [hc]; decide)]
    obtain ⟨b', rfl⟩ := he
    refine go _ ?_
    refine J_ret ?_
    refine ends_retS [4, 5] (post := (pb, B) :: m2) (junk := []) ⟨m2, _, hm2, by rw [blit_zero], rfl, .inr (.inr ⟨hc, b', rfl⟩), fun h => ?_⟩ rfl (by rw [List.append_nil]; exact MEqv.refl _)
    dsimp only at h; rw [hc] at h; exact absurd h (by decide)

/-- impl.end -/
theorem end_t (S : Sent G) (k : Nat) (v : Value) (hv : EndV S k v) : Trip Tryd.prog G 34 #[v] [] (fun r m => m = [] ∧ r = .int .i64 (k : Nat)) := by
  refine Trip_of Tryd.func34 rfl (by show 1 ≤ _; decide) (args := [v]) fun c h0 hex => ?_
  obtain ⟨i, hi, hc⟩ := ptrInfo
  rcases hv with ⟨rfl, rfl⟩ | ⟨rfl, he⟩ | ⟨rfl, he⟩
  · refine go _ ?_
    refine J_ret ?_
    exact ends_retS [2] ⟨rfl, rfl⟩
  · obtain rfl : v = .iface 122 (.pointer (some ⟨S.eb, S.eo, none⟩)) := he
    refine go _ ?_
    trace_state
    refine ro_loadA rfl rfl (by simp [S.e0]) S.e0n S.e0g rfl ?_
    refine go _ ?_
    refine ro_eqPtrs (r := true) (B := S.E1) (B' := S.E1) rfl rfl rfl rfl hi hc rfl (.inl ⟨rfl, by simp⟩) rfl ?_
    refine go _ ?_
    refine J_ret ?_
    exact ends_retS [2] ⟨rfl, rfl⟩
  · obtain ⟨b', rfl⟩ := he
    refine go _ ?_
    refine ro_loadA rfl rfl (by simp [S.e0]) S.e0n S.e0g rfl ?_
    refine go _ ?_
    refine ro_eqUnlike rfl rfl rfl rfl rfl ?_
    refine go _ ?_
    refine J_ret ?_
    exact ends_retS [2] ⟨rfl, rfl⟩
end Go.Proofs.YtogmacnlpclgkaaDoor
