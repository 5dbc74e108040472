/-
  WALKS 29: THE REFERENCE: low, Sized.
-/
import Derived.Test.YtogmacnlpclgkaaDoorW28
import Derived.Test.YtogmacnlpclgkaaDoorEngJ
namespace Go.Proofs.YtogmacnlpclgkaaDoor
open Go Go.Eng
attribute [local irreducible] RO J Trip Quiet
set_option maxRecDepth 20000
variable {G : Mem}

theorem slmSrc {M sm : Mem} {s len : Nat} {v : Value} {cl : Nat → Value} (h : SlM s v len cl sm) (hM : ∀ p ∈ sm, p ∈ M) : ∃ src, Src M s v len src ∧ ∀ i, i < len * s → src i = cl i := by
  rcases h with ⟨rfl, rfl, rfl⟩ | ⟨b, o, cap, B, rfl, rfl, hf, ho, hlc, hg⟩
  · exact ⟨fun _ => undef, .inr ⟨rfl, none, 0, rfl⟩, fun i hi => absurd hi (by simp)⟩
  · exact ⟨fun j => B.g (o + j), .inl ⟨b, o, cap, B, rfl, hM _ List.mem_cons_self, by have := Nat.mul_le_mul_right s hlc; omega, rfl⟩, hg⟩
theorem slmView {sm : Mem} {oa : Option Addr} {len cp : Nat} {z : Nat → Nat} (h : SlM 1 (.slice oa len cp) len (u8f z) sm) : View sm oa len cp z := by
  rcases h with ⟨h1, rfl, rfl⟩ | ⟨b, o, cap, B, h1, rfl, hf, ho, hlc, hg⟩
  · cases h1; exact ⟨Nat.le_refl _, .inl ⟨rfl, rfl, rfl⟩⟩
  · cases h1; exact ⟨hlc, .inr ⟨b, o, B, rfl, List.mem_cons_self, fun _ => by omega, fun i hi => hg i (by omega)⟩⟩
def Sent.add (fm : Mem) (S : Sent G) : Sent (fm ++ G) where
  eb := S.eb
  eo := S.eo
  ub := S.ub
  uo := S.uo
  E0 := S.E0
  E1 := S.E1
  U0 := S.U0
  U1 := S.U1
  e0 := List.mem_append.2 (.inr S.e0)
  e0n := S.e0n
  e0g := S.e0g
  e1 := List.mem_append.2 (.inr S.e1)
  e1f := S.e1f
  u0 := List.mem_append.2 (.inr S.u0)
  u0n := S.u0n
  u0g := S.u0g
  u1 := List.mem_append.2 (.inr S.u1)
  u1f := S.u1f
  ne := S.ne

def shr8 (n : Nat) : Nat → Nat
  | 0 => n
  | i + 1 => shr8 n i / 256
def lowF (n : Nat) : Nat → Nat := fun i => shr8 n i % 256
theorem lowF_0 (n : Nat) : lowF n 0 = n % 256 := rfl
theorem lowF_1 (n : Nat) : lowF n 1 = n / 256 % 256 := rfl
theorem lowF_2 (n : Nat) : lowF n 2 = n / 65536 % 256 := by show n / 256 / 256 % 256 = _; rw [Nat.div_div_eq_div_mul]
theorem lowF_3 (n : Nat) : lowF n 3 = n / 16777216 % 256 := by show n / 256 / 256 / 256 % 256 = _; rw [Nat.div_div_eq_div_mul, Nat.div_div_eq_div_mul]

structure LowS where
  i : Nat
  oa : Option Addr
  cp : Nat
  om : Mem
  j : Mem

theorem low_t (n k : Nat) (hk : k ≤ 2 ^ 20) : Trip Tryd.prog G 22 #[.int .u64 (n : Nat), .int .i64 (k : Nat)] [] (fun v m => ∃ oa cp, v = .slice oa k cp ∧ SlM 1 (.slice oa k cp) k (u8f (lowF n)) m) := by
  refine Trip_of Tryd.func22 rfl (by show 2 ≤ _; decide) (args := [.int .u64 (n : Nat), .int .i64 (k : Nat)]) fun c h0 hex => ?_
  refine go _ ?_
  refine J_loopL (σ := LowS) [] (fun t => [(0, .int .u64 ((shr8 n t.i : Nat) : Int)), (5, .slice t.oa t.i t.cp), (6, .int .i64 (k : Nat)), (7, .int .i64 (t.i : Nat))]) (fun t => t.om ++ t.j)
    (fun t => t.i ≤ k ∧ SlM 1 (.slice t.oa t.i t.cp) t.i (u8f (lowF n)) t.om) (fun t => k - t.i) ⟨0, none, 0, [], []⟩ (.refl _) ⟨Nat.zero_le _, .inl ⟨rfl, rfl, rfl⟩⟩ ?_
  rintro ⟨i, oa, cp, om, j⟩ f ⟨hi, hsl⟩
  dsimp only at hi hsl ⊢
  refine go _ ?_
  refine J_condP rfl (fun hlt => ?_) (fun hge => ?_)
  · refine go _ ?_
    refine ro_buildSlice1 (z := .int .u8 0) (vs := [.int .u8 ((shr8 n i % 256 : Nat) : Int)]) rfl rfl z5 rfl rfl rfl rfl hex fun sb hsb => ?_
    refine go _ ?_
    refine ro_appendMF (s := 0) (src := fun x => (listB [.int .u8 ((shr8 n i % 256 : Nat) : Int)] 5).g (0 + x)) (k := 1) (len := i) (v := .slice oa i cp) (cl := u8f (lowF n)) (sm := om) (fm := (sb, listB [.int .u8 ((shr8 n i % 256 : Nat) : Int)] 5) :: j) rfl rfl rfl rfl z5 (by decide) rfl rfl hsl
      (pA [(sb, listB [.int .u8 ((shr8 n i % 256 : Nat) : Int)] 5)] om j) (Src.of (B := listB [.int .u8 ((shr8 n i % 256 : Nat) : Int)] 5) (by simp) (by show 0 + 1 * (0 + 1) ≤ 1; decide)) (fun x hx => by rw [show x = 0 from by have h : x < 1 := hx; omega]; rfl) (by omega) hex rfl ?_
    intro v' sm' hv' hone'
    obtain ⟨oa', cp', rfl⟩ := slmForm hv'
    refine go _ ?_
    refine ⟨⟨i + 1, oa', cp', sm', (sb, _) :: j⟩, by dsimp only; omega, ⟨by dsimp only; omega, slmCongr hv' fun x hx => ?_⟩, ⟨rfl, rfl, rfl, rfl, trivial⟩, .of_perm List.perm_append_comm⟩
    have hx : x < (i + 1) * (0 + 1) := hx
    by_cases hx2 : x < i
    · rw [if_pos (by omega)]
    · obtain rfl : x = i := by omega
      rw [if_neg (by omega), show x - x * (0 + 1) = 0 by omega]; rfl
  · obtain rfl : i = k := by omega
    refine go _ ?_
    refine J_ret ?_
    exact ends_retS [4] (post := om) (junk := j) ⟨oa, cp, rfl, hsl⟩ rfl (.refl _)

theorem pC1 (x : Nat × Blk) (m : Mem) : (x :: m).Perm (m ++ [x]) := List.perm_append_comm (l₁ := [x]) (l₂ := m)
theorem pN (a b s : Mem) : (a ++ (b ++ s)).Perm (s ++ (a ++ b)) := by rw [← List.append_assoc]; exact List.perm_append_comm
theorem or_81 (L : Nat) : L * 2 ^ 3 ||| 1 = 8 * L + 1 := by
  have := Nat.shiftLeft_add_eq_or_of_lt (show 1 < 2 ^ 3 by decide) L
  rw [Nat.shiftLeft_eq] at this
  omega
theorem srcAdd {M : Mem} {k : Nat} {v : Value} {src : Nat → Value} (h : Src G 1 v k src) : Src (M ++ G) 1 v k src :=
  h.imp (fun ⟨b, o, cp, B, h1, h2, h3, h4⟩ => ⟨b, o, cp, B, h1, List.mem_append.2 (.inr h2), h3, h4⟩) id
theorem list_lt {l : List Nat} (h : ∀ v ∈ l, v < 256) (i : Nat) : l.getD i 0 < 256 := by
  rw [List.getD_eq_getElem?_getD]
  cases hi : l[i]? with
  | none => show 0 < 256; omega
  | some v => exact h v (List.mem_of_getElem? hi)
theorem sizedF_lt {n L : Nat} {tx : Nat → Nat} (h : ∀ i, tx i < 256) (i : Nat) : sizedF n L tx i < 256 := by
  unfold sizedF
  split
  · refine list_lt ?_ i
    intro v hv
    simp only [List.mem_cons, List.not_mem_nil, or_false] at hv
    omega
  · exact h _
/-- What an append makes of two pieces. -/
def app1 (len : Nat) (a b : Nat → Nat) : Nat → Nat := fun i => if i < len then a i else b (i - len)
theorem app_cl {len k : Nat} {a b : Nat → Nat} {src : Nat → Value} (hs : ∀ i, i < k → src i = u8f b i) : ∀ i, i < (len + k) * (0 + 1) → (if i < len * (0 + 1) then u8f a i else src (i - len * (0 + 1))) = u8f (app1 len a b) i := by
  intro i hi
  unfold app1
  by_cases h : i < len
  · rw [if_pos (by omega)]; show _ = Value.int .u8 ((if i < len then a i else b (i - len) : Nat) : Int); rw [if_pos h]; rfl
  · rw [if_neg (by omega), show i - len * (0 + 1) = i - len by omega, hs _ (by omega)]
    show _ = Value.int .u8 ((if i < len then a i else b (i - len) : Nat) : Int); rw [if_neg h]; rfl

theorem app1_lt {len : Nat} {a b : Nat → Nat} {i : Nat} (h : i < len) : app1 len a b i = a i := if_pos h
theorem app1_ge {len : Nat} {a b : Nat → Nat} {i : Nat} (h : ¬ i < len) : app1 len a b i = b (i - len) := if_neg h
theorem sized_eq (n L : Nat) (tx : Nat → Nat) (i : Nat) : app1 (4 + 2 + 4 + 3) (app1 (4 + 2 + 4) (app1 (4 + 2) (app1 4 (lowF 4247762216) fun i => [128, 104].getD i 0) (lowF n)) (lowF (8 * L + 1))) tx i = sizedF n L tx i := by
  have l0 : lowF 4247762216 0 = 40 := (lowF_0 _).trans (by decide)
  have l1 : lowF 4247762216 1 = 181 := (lowF_1 _).trans (by decide)
  have l2 : lowF 4247762216 2 = 47 := (lowF_2 _).trans (by decide)
  have l3 : lowF 4247762216 3 = 253 := (lowF_3 _).trans (by decide)
  generalize lowF 4247762216 = lo at *
  unfold sizedF
  by_cases h13 : i < 13
  · rw [if_pos h13, app1_lt (show i < 4 + 2 + 4 + 3 by omega)]
    by_cases h10 : i < 10
    · rw [app1_lt (show i < 4 + 2 + 4 by omega)]
      by_cases h6 : i < 6
      · rw [app1_lt (show i < 4 + 2 by omega)]
        by_cases h4 : i < 4
        · rw [app1_lt h4]
          obtain rfl | rfl | rfl | rfl : i = 0 ∨ i = 1 ∨ i = 2 ∨ i = 3 := by omega
          · exact l0
          · exact l1
          · exact l2
          · exact l3
        · rw [app1_ge h4]
          obtain rfl | rfl : i = 4 ∨ i = 5 := by omega
          · rfl
          · rfl
      · rw [app1_ge (show ¬ i < 4 + 2 by omega)]
        obtain rfl | rfl | rfl | rfl : i = 6 ∨ i = 7 ∨ i = 8 ∨ i = 9 := by omega
        · exact lowF_0 n
        · exact lowF_1 n
        · exact lowF_2 n
        · exact lowF_3 n
    · rw [app1_ge (show ¬ i < 4 + 2 + 4 by omega)]
      generalize 8 * L + 1 = z
      obtain rfl | rfl | rfl : i = 10 ∨ i = 11 ∨ i = 12 := by omega
      · exact lowF_0 z
      · exact lowF_1 z
      · exact lowF_2 z
  · rw [app1_ge (show ¬ i < 4 + 2 + 4 + 3 by omega), if_neg h13]

set_option maxHeartbeats 1000000 in
theorem sized_t (oa : Option Addr) (L cp : Nat) (tx : Nat → Nat) (hv : View G oa L cp tx) (hL : L ≤ 2 ^ 31) (n : Nat) (hn : n < 2 ^ 62) :
    Trip Tryd.prog G 11 #[.slice oa L cp, .int .i64 (n : Nat)] [] (fun v m => ∃ oa' cp', v = .slice oa' (13 + L) cp' ∧ SlM 1 (.slice oa' (13 + L) cp') (13 + L) (u8f (sizedF n L tx)) m) := by
  refine Trip_of Tryd.func11 rfl (by show 2 ≤ _; decide) (args := [.slice oa L cp, .int .i64 (n : Nat)]) fun c h0 hex => ?_
  refine go _ ?_
  refine ro_callT (low_t 4247762216 4 (by omega)) ?_
  rintro v om1 ⟨a1, c1, rfl, h1⟩
  rw [List.append_nil]
  refine go _ ?_
  refine ro_buildSlice1 (z := .int .u8 0) (vs := [.int .u8 128, .int .u8 104]) rfl rfl z5 rfl rfl rfl rfl hex fun b1 hb1 => ?_
  refine go _ ?_
  refine ro_appendMF (s := 0) (src := fun x => (listB [.int .u8 128, .int .u8 104] 5).g (0 + x)) (k := 2) (len := 4) (v := .slice a1 4 c1) (cl := u8f (lowF 4247762216)) (sm := om1) (fm := [(b1, listB [.int .u8 128, .int .u8 104] 5)]) rfl rfl rfl rfl z5 (by decide) rfl rfl h1
    (pC1 _ _) (Src.of (B := listB [.int .u8 128, .int .u8 104] 5) (by simp) (by show 0 + 2 * (0 + 1) ≤ 2; decide)) (fun x hx => by
      have h : x < 2 := hx
      match x, h with
      | 0, _ => rfl
      | 1, _ => rfl) (by omega) hex rfl ?_
  intro v' s1 hs1 ho1
  have hs1 := slmCongr hs1 (app_cl (len := 4) (k := 2) (a := lowF 4247762216) (src := fun x => (listB [.int .u8 128, .int .u8 104] 5).g (0 + x)) (b := fun i => [128, 104].getD i 0) (fun i hi => by
    match i, hi with
    | 0, _ => rfl
    | 1, _ => rfl))
  obtain ⟨a2, c2, rfl⟩ := slmForm hs1
  refine go _ ?_
  refine ro_callT (low_t n 4 (by omega)) ?_
  rintro v om2 ⟨a3, c3, rfl, h2⟩
  refine go _ ?_
  obtain ⟨g2, e2, e2'⟩ := slmSrc (M := (om2 ++ ([(b1, listB [.int .u8 128, .int .u8 104] 5)] ++ s1)) ++ G) h2 (fun p hp => by simp [hp])
  refine ro_appendMF (s := 0) (src := g2) (k := 4) (len := 4 + 2) (v := .slice a2 (4 + 2) c2) (sm := s1) (fm := om2 ++ [(b1, listB [.int .u8 128, .int .u8 104] 5)]) rfl rfl rfl rfl z5 (by decide) rfl rfl hs1
    (pN om2 [(b1, listB [.int .u8 128, .int .u8 104] 5)] s1) e2 (fun x hx => by rw [e2' x (by omega)]; rfl) (by omega) hex rfl ?_
  intro v' s2 hs2 ho2
  have hs2 := slmCongr hs2 (app_cl (len := 4 + 2) (k := 4) (b := lowF n) (fun i hi => e2' i (by omega)))
  obtain ⟨a4, c4, rfl⟩ := slmForm hs2
  refine go _ ?_
  refine ro_orN (L * 2 ^ 3) 1 rfl rfl (by show _ < 2 ^ 63; omega) (by decide) rfl ?_
  rw [or_81]
  refine go _ ?_
  refine ro_callT (low_t (8 * L + 1) 3 (by omega)) ?_
  rintro v om3 ⟨a5, c5, rfl, h3⟩
  refine go _ ?_
  obtain ⟨g3, e3, e3'⟩ := slmSrc (M := (om3 ++ ((om2 ++ [(b1, listB [.int .u8 128, .int .u8 104] 5)]) ++ s2)) ++ G) h3 (fun p hp => by simp [hp])
  refine ro_appendMF (s := 0) (src := g3) (k := 3) (len := 4 + 2 + 4) (v := .slice a4 (4 + 2 + 4) c4) (sm := s2) (fm := om3 ++ (om2 ++ [(b1, listB [.int .u8 128, .int .u8 104] 5)])) rfl rfl rfl rfl z5 (by decide) rfl rfl hs2
    (pN om3 (om2 ++ [(b1, listB [.int .u8 128, .int .u8 104] 5)]) s2) e3 (fun x hx => by rw [e3' x (by omega)]; rfl) (by omega) hex rfl ?_
  intro v' s3 hs3 ho3
  have hs3 := slmCongr hs3 (app_cl (len := 4 + 2 + 4) (k := 3) (b := lowF (8 * L + 1)) (fun i hi => e3' i (by omega)))
  obtain ⟨a6, c6, rfl⟩ := slmForm hs3
  refine go _ ?_
  obtain ⟨g4, e4, e4'⟩ := hv.src
  refine ro_appendMF (s := 0) (src := g4) (k := L) (len := 4 + 2 + 4 + 3) (v := .slice a6 (4 + 2 + 4 + 3) c6) (sm := s3) (fm := om3 ++ (om2 ++ [(b1, listB [.int .u8 128, .int .u8 104] 5)])) rfl rfl rfl rfl z5 (by decide) rfl rfl hs3
    List.perm_append_comm (srcAdd e4) (fun x hx => by rw [e4' x (by omega)]; rfl) (by omega) hex rfl ?_
  intro v' s4 hs4 ho4
  have hs4 := slmCongr hs4 (app_cl (len := 4 + 2 + 4 + 3) (k := L) (b := tx) (fun i hi => e4' i hi))
  obtain ⟨a7, c7, rfl⟩ := slmForm hs4
  refine go _ ?_
  refine J_ret ?_
  refine ends_retS [4] (post := s4) (junk := om3 ++ (om2 ++ [(b1, listB [.int .u8 128, .int .u8 104] 5)])) ⟨a7, c7, rfl, slmCongr hs4 fun i hi => ?_⟩ rfl (.of_perm List.perm_append_comm)
  have hi : i < 13 + L := by simpa using hi
  exact congrArg (fun x : Nat => Value.int .u8 (x : Int)) (sized_eq n L tx i)
end Go.Proofs.YtogmacnlpclgkaaDoor
