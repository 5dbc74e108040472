/-
  TEXTS MERGED: Eng2.
-/
import Derived.Test.YtogmacnlpclgkaaDoorK01
/-! AN ENGINE OF WALKS, PART 2: THE FRAME AS A FUNCTION, MEMORY AS A LIST OF BLOCKS; the judgements on operations (RO), on code (J), on calls (Trip). -/
namespace Go.Eng
open Go

/-! The frame -/
abbrev Fr := Nat → Value
def ev (f : Fr) : Operand → Value
  | .tmp t => f t
  | .const v => v
  | .global g => .pointer (some ⟨g, 0, none⟩)
  | .func k => .func (.func k) #[] #[]
def upd (f : Fr) (d : Nat) (v : Value) : Fr := fun i => bif Nat.beq i d then v else f i
def updo (f : Fr) : Option Nat → Value → Fr
  | some d, v => upd f d v
  | none, _ => f
def dstOk (n : Nat) : Option Nat → Bool
  | some d => Nat.blt d n
  | none => true

structure Rep (n : Nat) (a : Act) (f : Fr) : Prop where
  size : a.tmps.size = n
  slot : ∀ i, a.tmps.getD i undef = f i
  defers : a.defers = []

theorem upd_same (f : Fr) (d : Nat) (v : Value) : upd f d v d = v := by simp [upd]
theorem upd_other (f : Fr) (d i : Nat) (v : Value) (h : i ≠ d) : upd f d v i = f i := by
  have : Nat.beq i d = false := by cases hb : Nat.beq i d with | false => rfl | true => exact absurd (Nat.eq_of_beq_eq_true hb) h
  simp [upd, this]
theorem upd_self (f : Fr) (d : Nat) : upd f d (f d) = f := by
  funext i
  by_cases h : i = d
  · subst h; exact upd_same _ _ _
  · exact upd_other _ _ _ _ h

theorem Rep.eval {n : Nat} {a : Act} {f : Fr} (r : Rep n a f) : a.eval = ev f := by
  funext x
  cases x with
  | tmp t => exact r.slot t
  | _ => rfl

theorem Rep.put {n : Nat} {a : Act} {f : Fr} (r : Rep n a f) {d : Option Nat} (hd : dstOk n d = true) (v : Value) : Rep n (a.put d v) (updo f d v) := by
  cases d with
  | none => exact r
  | some d =>
    have hlt : d < a.tmps.size := by rw [r.size]; simpa [dstOk] using hd
    refine ⟨by simp [Act.put, r.size], fun i => ?_, r.defers⟩
    by_cases h : i = d
    · subst h
      rw [updo, upd_same]
      simp [Act.put, hlt]
    · rw [updo, upd_other _ _ _ _ h, ← r.slot i]
      simp [Act.put, Array.getElem?_setIfInBounds_ne (Ne.symm h)]

def yieldedF (ops : Array Oper) (f : Fr) (j : Nat) : Option Bool :=
  match (ops[j]?).bind (·.dst) with
  | some d => (match f d with | .bool b => some b | _ => none)
  | none => none
def wantedF (ops : Array Oper) (f : Fr) (o : Oper) : Bool := Region.wanted o (yieldedF ops f)

theorem Rep.yielded {n : Nat} {a : Act} {f : Fr} (r : Rep n a f) (ops : Array Oper) : yielded ops a.tmps = yieldedF ops f := by
  funext j
  unfold Go.yielded yieldedF
  cases (ops[j]?).bind (·.dst) with
  | none => rfl
  | some d =>
    have := r.slot d
    simp only [Option.bind_some]
    rcases Nat.lt_or_ge d a.tmps.size with h | h
    · simp [h] at this ⊢; rw [this]; cases f d <;> rfl
    · simp [Array.getElem?_eq_none h] at this ⊢; rw [← this]; rfl

/-! Memory -/
structure Blk where
  n : Nat
  g : Nat → Value
  T : TypeId
  fr : Nat × Nat := (0, 0)
def Blk.cells (B : Blk) : Array Value := Array.ofFn fun i : Fin B.n => B.g i
def Blk.obj (B : Blk) : Obj := .cells B.cells B.T B.fr
/-- One place turned. -/
def Blk.st (B : Blk) (o : Nat) (v : Value) : Blk := ⟨B.n, upd B.g o v, B.T, B.fr⟩
abbrev Mem := List (Nat × Blk)

theorem Blk.get (B : Blk) (i : Nat) (h : i < B.n) : B.cells[i]? = some (B.g i) := by
  simp [Blk.cells, h]
theorem Blk.size (B : Blk) : B.cells.size = B.n := by simp [Blk.cells]

/-- Two contents that are alike below n. -/
theorem Blk.cells_congr {n : Nat} {g g' : Nat → Value} {T T' : TypeId} {fr fr' : Nat × Nat} (h : ∀ i, i < n → g i = g' i) : (Blk.mk n g T fr).cells = (Blk.mk n g' T' fr').cells := by
  unfold Blk.cells
  congr 1
  funext i
  exact h i i.2

/-- The heap as a call began, the blocks that it may turn, and whether it must leave all just as it is. -/
structure Base where
  h : Heap
  K : List Nat
  ex : Bool

/-- h holds the blocks of m and of G (that nobody turns); m's are of those that may be turned, or new; no other is turned. -/
structure Own (h0 : Base) (G m : Mem) (h : Heap) : Prop where
  size : h0.h.size ≤ h.size
  has : ∀ p ∈ m ++ G, h[p.1]? = some p.2.obj
  nodup : ((m ++ G).map (·.1)).Nodup
  known : ∀ p ∈ m, p.1 ∈ h0.K ∨ h0.h.size ≤ p.1
  old : ∀ b, b < h0.h.size → b ∉ h0.K → h[b]? = h0.h[b]?
  ex : h0.ex = true → h = h0.h

theorem Own.lt {h0 : Base} {G m : Mem} {h : Heap} (o : Own h0 G m h) {p : Nat × Blk} (hp : p ∈ m ++ G) : p.1 < h.size := by
  have := o.has p hp
  exact (Array.getElem?_eq_some_iff.1 this).1

/-- A block of a memory. -/
inductive Has : Mem → Nat → Blk → Prop
  | here {b : Nat} {B : Blk} {m : Mem} : Has ((b, B) :: m) b B
  | there {b : Nat} {B : Blk} {x : Nat × Blk} {m : Mem} : Has m b B → Has (x :: m) b B
theorem Has.mem {m : Mem} {b : Nat} {B : Blk} (h : Has m b B) : (b, B) ∈ m := by
  induction h with
  | here => exact List.mem_cons_self
  | there _ ih => exact List.mem_cons_of_mem _ ih

/-- A block taken out of a memory. -/
inductive Take : Mem → Nat → Blk → Mem → Prop
  | here {b : Nat} {B : Blk} {m : Mem} : Take ((b, B) :: m) b B m
  | there {b : Nat} {B : Blk} {x : Nat × Blk} {m m' : Mem} : Take m b B m' → Take (x :: m) b B (x :: m')
theorem Take.perm {m m' : Mem} {b : Nat} {B : Blk} (h : Take m b B m') : m.Perm ((b, B) :: m') := by
  induction h with
  | here => exact List.Perm.refl _
  | there _ ih => exact (List.Perm.cons _ ih).trans (List.Perm.swap _ _ _)

/-- A block's content turned in its place. -/
inductive Put : Mem → Nat → Blk → Blk → Mem → Prop
  | here {b : Nat} {B B' : Blk} {m : Mem} : Put ((b, B) :: m) b B B' ((b, B') :: m)
  | there {b : Nat} {B B' : Blk} {x : Nat × Blk} {m m' : Mem} : Put m b B B' m' → Put (x :: m) b B B' (x :: m')
theorem Put.keys {m m' : Mem} {b : Nat} {B B' : Blk} (h : Put m b B B' m') : m'.map (·.1) = m.map (·.1) := by
  induction h with
  | here => rfl
  | there _ ih => simp [ih]
theorem Put.mem {m m' : Mem} {b : Nat} {B B' : Blk} (h : Put m b B B' m') : (b, B) ∈ m := by
  induction h with
  | here => exact List.mem_cons_self
  | there _ ih => exact List.mem_cons_of_mem _ ih
theorem Put.of_mem {m m' : Mem} {b : Nat} {B B' : Blk} (h : Put m b B B' m') : ∀ p ∈ m', p = (b, B') ∨ p ∈ m := by
  induction h with
  | here => intro p hp; rcases List.mem_cons.1 hp with h | h
            · exact .inl h
            · exact .inr (List.mem_cons_of_mem _ h)
  | there _ ih => intro p hp; rcases List.mem_cons.1 hp with h | h
                  · exact .inr (h ▸ List.mem_cons_self)
                  · exact (ih p h).imp id (List.mem_cons_of_mem _)

/-- Several blocks taken out. -/
inductive Sel : Mem → Mem → Mem → Prop
  | nil {m : Mem} : Sel m [] m
  | cons {m m' pre fm : Mem} {b : Nat} {B : Blk} : Take m b B m' → Sel m' pre fm → Sel m ((b, B) :: pre) fm
theorem Sel.perm {m pre fm : Mem} (h : Sel m pre fm) : m.Perm (pre ++ fm) := by
  induction h with
  | nil => exact List.Perm.refl _
  | cons t _ ih => exact t.perm.trans (List.Perm.cons _ ih)

theorem Own.perm {h0 : Base} {G m m' : Mem} {h : Heap} (o : Own h0 G m h) (p : m.Perm m') : Own h0 G m' h where
  size := o.size
  has := fun q hq => o.has q ((List.Perm.append_right G p).mem_iff.2 hq)
  nodup := (((List.Perm.append_right G p).map _).nodup_iff).1 o.nodup
  known := fun q hq => o.known q (p.mem_iff.2 hq)
  old := o.old
  ex := o.ex
/-- Two lists of the same blocks, in whatever order, and however their contents are spelled. -/
def MEqv (m m' : Mem) : Prop := (m.map fun p => (p.1, p.2.obj)).Perm (m'.map fun p => (p.1, p.2.obj))
theorem MEqv.refl (m : Mem) : MEqv m m := List.Perm.refl _
theorem MEqv.symm {m m' : Mem} (h : MEqv m m') : MEqv m' m := List.Perm.symm h
theorem MEqv.trans {m m' m'' : Mem} (h : MEqv m m') (h' : MEqv m' m'') : MEqv m m'' := List.Perm.trans h h'
theorem MEqv.of_perm {m m' : Mem} (h : m.Perm m') : MEqv m m' := h.map _
theorem MEqv.nil : MEqv [] [] := List.Perm.refl _
theorem MEqv.cons {b : Nat} {B B' : Blk} {m m' : Mem} (hB : B.obj = B'.obj) (h : MEqv m m') : MEqv ((b, B) :: m) ((b, B') :: m') := by
  unfold MEqv at *
  simp only [List.map_cons, hB]
  exact List.Perm.cons _ h
theorem MEqv.skip {p : Nat × Blk} {m m' : Mem} (h : MEqv m m') : MEqv (p :: m) (p :: m') := MEqv.cons rfl h
theorem MEqv.put {b n : Nat} {g g' : Nat → Value} {T : TypeId} {fr : Nat × Nat} {m m' : Mem} (hg : ∀ i, i < n → g i = g' i) (h : MEqv m m') : MEqv ((b, ⟨n, g, T, fr⟩) :: m) ((b, ⟨n, g', T, fr⟩) :: m') :=
  MEqv.cons (by unfold Blk.obj; rw [Blk.cells_congr hg]) h
theorem MEqv.append {m m' l l' : Mem} (h : MEqv m m') (h' : MEqv l l') : MEqv (m ++ l) (m' ++ l') := by
  unfold MEqv at *; simp only [List.map_append]; exact h.append h'
theorem MEqv.append_right {m m' : Mem} (l : Mem) (h : MEqv m m') : MEqv (m ++ l) (m' ++ l) := h.append (.refl l)
theorem Own.eqv {h0 : Base} {G m m' : Mem} {h : Heap} (o : Own h0 G m h) (e : MEqv m m') : Own h0 G m' h where
  size := o.size
  has := by
    intro q hq
    rcases List.mem_append.1 hq with hq | hq
    · have : (q.1, q.2.obj) ∈ m.map fun p => (p.1, p.2.obj) := e.mem_iff.2 (List.mem_map.2 ⟨q, hq, rfl⟩)
      obtain ⟨r, hr, he⟩ := List.mem_map.1 this
      simp only [Prod.mk.injEq] at he
      rw [← he.1, ← he.2]
      exact o.has r (List.mem_append.2 (.inl hr))
    · exact o.has q (List.mem_append.2 (.inr hq))
  nodup := by
    have hk : (m.map (·.1)).Perm (m'.map (·.1)) := by
      have := e.map (fun p : Nat × Obj => p.1)
      simpa [List.map_map, Function.comp_def] using this
    have := o.nodup
    simp only [List.map_append] at this ⊢
    exact ((hk.append_right _).nodup_iff).1 this
  known := by
    intro q hq
    have : (q.1, q.2.obj) ∈ m.map fun p => (p.1, p.2.obj) := e.mem_iff.2 (List.mem_map.2 ⟨q, hq, rfl⟩)
    obtain ⟨r, hr, he⟩ := List.mem_map.1 this
    simp only [Prod.mk.injEq] at he
    rw [← he.1]
    exact o.known r hr
  old := o.old
  ex := o.ex
/-- What is not wanted any more. -/
theorem Own.drop {h0 : Base} {G post junk : Mem} {h : Heap} (o : Own h0 G (post ++ junk) h) : Own h0 G post h where
  size := o.size
  has := fun q hq => o.has q (by simp only [List.mem_append] at hq ⊢; exact hq.imp .inl id)
  nodup := by
    refine o.nodup.sublist (List.Sublist.map _ ?_)
    rw [List.append_assoc]
    exact List.Sublist.append (List.Sublist.refl _) (List.sublist_append_right _ _)
  known := fun q hq => o.known q (List.mem_append.2 (.inl hq))
  old := o.old
  ex := o.ex
/-- A call begins with some of the blocks. -/
def Mem.keys (m : Mem) : List Nat := m.map (·.1)
theorem Own.startSub {h0 : Base} {G pre fm : Mem} {h : Heap} (o : Own h0 G (pre ++ fm) h) : Own ⟨h, pre.keys, false⟩ G pre h :=
  ⟨Nat.le_refl _, o.drop.has, o.drop.nodup, fun p hp => .inl (List.mem_map.2 ⟨p, hp, rfl⟩), fun _ _ _ => rfl, fun h => by cases h⟩

/-- What held of h's blocks holds of h' still, whatever is held of them. -/
def Ext (h0 : Base) (G : Mem) (h h' : Heap) : Prop := ∀ m, Own h0 G m h → Own h0 G m h'
theorem Ext.refl {h0 : Base} {G : Mem} (h : Heap) : Ext h0 G h h := fun _ o => o
theorem Ext.trans {h0 : Base} {G : Mem} (h h' h'' : Heap) (a : Ext h0 G h h') (b : Ext h0 G h' h'') : Ext h0 G h h'' := fun m o => b m (a m o)

/-! Operations -/
section
variable (P : Program) (G : Mem) (qs : List FuncId) (c : World) (n : Nat) (h0 : Base) (ops : Array Oper)

def StillF (h : Heap) (w : World) (s : Sem Next) (v : Value) : Prop := ∃ w', At c h w' ∧
  (s.run P w = .ok (.value v) w' ∨ ∃ f args, s.run P w = .ok (.enter f args) w' ∧ Calls P f args w' (fun e w'' => e = .returned v ∧ At c h w''))

def RO (Q : Fr → Mem → Prop) : List Oper → Fr → Mem → Prop
  | [], f, m => Q f m
  | o :: rest, f, m =>
    dstOk n o.dst = true ∧
    ((wantedF ops f o = true ∧
      (if cls qs o.op = 0 then ∃ v, (∀ w, (execOp (ev f) o).run P w = .ok (.value v) w) ∧ RO Q rest (updo f o.dst v) m
       else if cls qs o.op = 1 then ∃ v, (∀ h w, Own h0 G m h → At c h w → StillF P c h w (execOp (ev f) o) v) ∧ RO Q rest (updo f o.dst v) m
       else ∀ h w, Own h0 G m h → At c h w → ∀ a, Rep n a f →
        o.wp P a w (fun a' w' => ∃ f' m' h', Rep n a' f' ∧ At c h' w' ∧ Own h0 G m' h' ∧ (cls qs o.op = 3 → Ext h0 G h h') ∧ RO Q rest f' m') noWay))
     ∨ (wantedF ops f o = false ∧ RO Q rest (updo f o.dst undef) m))

def QN (Q : Fr → Mem → Prop) (a : Act) (h : Heap) : Prop := ∃ f m, Rep n a f ∧ Own h0 G m h ∧ Q f m

variable {P G qs c n h0 ops}

theorem RO.sound {Q : Fr → Mem → Prop} : ∀ (ord : List Nat) (l : List Oper), ord.map (ops[·]?) = l.map some → ∀ (f : Fr) (m : Mem) (a : Act) (h : Heap),
    Rep n a f → Own h0 G m h → RO P G qs c n h0 ops Q l f m → wpOrd P ops c qs (Ext h0 G) (QN G n h0 Q) ord a h
  | [], [], _, f, m, a, h, r, o, hh => ⟨f, m, r, o, hh⟩
  | [], _ :: _, hl, _, _, _, _, _, _, _ => by simp at hl
  | _ :: _, [], hl, _, _, _, _, _, _, _ => by simp at hl
  | i :: ord, op :: l, hl, f, m, a, h, r, o, hh => by
    simp only [List.map_cons, List.cons.injEq] at hl
    obtain ⟨hi, hl⟩ := hl
    have ih := RO.sound (Q := Q) ord l hl
    obtain ⟨hd, hh⟩ := hh
    have hwant : Region.wanted op (yielded ops a.tmps) = wantedF ops f op := by rw [r.yielded]; rfl
    refine ⟨op, hi, ?_⟩
    rcases hh with ⟨hw, hh⟩ | ⟨hw, hh⟩
    · split
      · rename_i h0'
        rw [if_pos h0'] at hh
        obtain ⟨v, hv, hK⟩ := hh
        exact ⟨v, .inl ⟨hwant.trans hw, by rw [r.eval]; exact hv⟩, ih _ _ _ _ (r.put hd v) o hK⟩
      · rename_i h0'
        rw [if_neg h0'] at hh
        split
        · rename_i h1
          rw [if_pos h1] at hh
          obtain ⟨v, hv, hK⟩ := hh
          exact ⟨v, fun h' hx => .inl ⟨hwant.trans hw, fun w hc => by rw [r.eval]; exact hv h' w (hx m o) hc⟩, ih _ _ _ _ (r.put hd v) o hK⟩
        · rename_i h1
          rw [if_neg h1] at hh
          intro w hc
          unfold wpOp
          simp only [hi, hwant, hw, if_true]
          exact .inl (Oper.wp_mono (fun a' w' ⟨f', m', h', r', hc', o', hx, hK⟩ => ⟨h', hc', hx, ih _ _ _ _ r' o' hK⟩) (hh h w o hc a r))
    · have hun : Region.wanted op (yielded ops a.tmps) = false := hwant.trans hw
      split
      · exact ⟨undef, .inr ⟨hun, rfl⟩, ih _ _ _ _ (r.put hd undef) o hh⟩
      · split
        · exact ⟨undef, fun _ _ => .inr ⟨hun, rfl⟩, ih _ _ _ _ (r.put hd undef) o hh⟩
        · intro w hc
          unfold wpOp
          simp only [hi, hun, Bool.false_eq_true, if_false]
          exact ⟨h, hc, fun _ => Ext.refl h, ih _ _ _ _ (r.put hd undef) o hh⟩

/-! Code -/
variable (P G c n h0)
def liftQ (Q : Exit → Fr → Mem → Prop) : Exit → Act → World → Prop := fun e a w => ∃ f m h, Rep n a f ∧ At c h w ∧ Own h0 G m h ∧ Q e f m
def J (cd : Code) (Q : Exit → Fr → Mem → Prop) (f : Fr) (m : Mem) : Prop := ∀ a w h, Rep n a f → At c h w → Own h0 G m h → cd.wp P (liftQ G c n h0 Q) a w
variable {P G c n h0}

def thenQ (K : Fr → Mem → Prop) (Q : Exit → Fr → Mem → Prop) : Exit → Fr → Mem → Prop
  | .normal, f, m => K f m
  | e, f, m => Q e f m
def blockQ (id : Nat) (Q : Exit → Fr → Mem → Prop) : Exit → Fr → Mem → Prop
  | .exit id', f, m => if id' = id then Q .normal f m else Q (.exit id') f m
  | e, f, m => Q e f m

variable {Q : Exit → Fr → Mem → Prop} {f : Fr} {m : Mem}

theorem J_mono {cd : Code} {Q' : Exit → Fr → Mem → Prop} (h : J P G c n h0 cd Q f m) (hq : ∀ e f m, Q e f m → Q' e f m) : J P G c n h0 cd Q' f m :=
  fun a w hp r hc o => wp_mono (h a w hp r hc o) fun _ _ _ ⟨f', m', h', r', hc', o', q⟩ => ⟨f', m', h', r', hc', o', hq _ _ _ q⟩
theorem J_skip (h : Q .normal f m) : J P G c n h0 .skip Q f m := fun _ _ hp r hc o => wp_skip ⟨f, m, hp, r, hc, o, h⟩
theorem J_label {l : Nat} (h : Q .normal f m) : J P G c n h0 (.label l) Q f m := fun _ _ hp r hc o => wp_label ⟨f, m, hp, r, hc, o, h⟩
theorem J_ret (h : Q .ret f m) : J P G c n h0 .ret Q f m := fun _ _ hp r hc o => wp_ret ⟨f, m, hp, r, hc, o, h⟩
theorem J_exit {id : Nat} (h : Q (.exit id) f m) : J P G c n h0 (.exit id) Q f m := fun _ _ hp r hc o => wp_exit ⟨f, m, hp, r, hc, o, h⟩
theorem J_goto {l : Nat} (h : Q (.goto l) f m) : J P G c n h0 (.goto l) Q f m := fun _ _ hp r hc o => wp_goto ⟨f, m, hp, r, hc, o, h⟩
theorem J_seq {x y : Code} (h : J P G c n h0 x (thenQ (fun f m => J P G c n h0 y Q f m) Q) f m) : J P G c n h0 (.seq x y) Q f m :=
  fun a w hp r hc o => wp_seq (wp_mono (h a w hp r hc o) fun e a' w' ⟨f', m', h', r', hc', o', q⟩ => by
    cases e
    case normal => exact q a' w' h' r' hc' o'
    all_goals exact ⟨f', m', h', r', hc', o', q⟩)
theorem J_block {id : Nat} {x : Code} (h : J P G c n h0 x (blockQ id Q) f m) : J P G c n h0 (.block id x) Q f m :=
  fun a w hp r hc o => wp_block (wp_mono (h a w hp r hc o) fun e a' w' ⟨f', m', h', r', hc', o', q⟩ => by
    cases e
    case exit id' =>
      simp only [Exit.inBlock, blockQ] at q ⊢
      split
      · rename_i he; rw [if_pos he] at q; exact ⟨f', m', h', r', hc', o', q⟩
      · rename_i he; rw [if_neg he] at q; exact ⟨f', m', h', r', hc', o', q⟩
    all_goals exact ⟨f', m', h', r', hc', o', q⟩)
theorem J_cond {x : Operand} {y z : Code} {b : Bool} (hb : ev f x = .bool b) (h1 : b = true → J P G c n h0 y Q f m) (h2 : b = false → J P G c n h0 z Q f m) :
    J P G c n h0 (.cond x y z) Q f m := by
  intro a w hp r hc o
  refine wp_cond (t := b) (by rw [r.eval]; exact hb) ?_
  cases b
  · exact h2 rfl a w hp r hc o
  · exact h1 rfl a w hp r hc o
theorem J_condP {x : Operand} {y z : Code} {p : Prop} [Decidable p] (hb : ev f x = .bool (decide p)) (h1 : p → J P G c n h0 y Q f m) (h2 : ¬p → J P G c n h0 z Q f m) :
    J P G c n h0 (.cond x y z) Q f m :=
  J_cond hb (fun h => h1 (of_decide_eq_true h)) (fun h => h2 (of_decide_eq_false h))
theorem J_condT {x : Operand} {y z : Code} (hb : ev f x = .bool true) (h1 : J P G c n h0 y Q f m) : J P G c n h0 (.cond x y z) Q f m :=
  J_cond hb (fun _ => h1) (fun h => by cases h)
theorem J_condF {x : Operand} {y z : Code} (hb : ev f x = .bool false) (h2 : J P G c n h0 z Q f m) : J P G c n h0 (.cond x y z) Q f m :=
  J_cond hb (fun h => by cases h) (fun _ => h2)

theorem J_eqv {cd : Code} {m' : Mem} (e : MEqv m m') (h : J P G c n h0 cd Q f m') : J P G c n h0 cd Q f m := fun a w hp r hc o => h a w hp r hc (o.eqv e)

/-- A loop: I k f m holds at each round's head, k goes down. -/
theorem J_loop {body : Code} (I : Nat → Fr → Mem → Prop) {k0 : Nat} (hI : I k0 f m)
    (round : ∀ k f m, I k f m → J P G c n h0 body (thenQ (fun f' m' => ∃ k', k' < k ∧ I k' f' m') Q) f m) : J P G c n h0 (.loop body) Q f m := by
  intro a w hp r hc o b kk cs
  have key : ∀ k, ∀ f m a w hp, Rep n a f → At c hp w → Own h0 G m hp → I k f m →
      ∃ e a' w', liftQ G c n h0 Q e a' w' ∧ Arrives P (lone (b.at a (.code body :: .inLoop body :: kk)) cs w) b kk cs e a' w' := by
    intro k
    induction k using Nat.strongRecOn with
    | _ k ih =>
      intro f m a w hp r hc o hI
      obtain ⟨e, a₁, w₁, ⟨f', m', h', r', hc', o', q⟩, harr⟩ := round k f m hI a w hp r hc o b (.inLoop body :: kk) cs
      cases e with
      | normal =>
        obtain ⟨k', hlt, hI'⟩ := q
        obtain ⟨e₂, a₂, w₂, hq₂, harr₂⟩ := ih k' hlt f' m' a₁ w₁ h' r' hc' o' hI'
        exact ⟨e₂, a₂, w₂, hq₂, .of_steps (Steps.trans harr (.one step_inLoop)) harr₂⟩
      | exit id => exact ⟨_, a₁, w₁, ⟨f', m', h', r', hc', o', q⟩, .pass (x := .inLoop body) rfl (fun _ _ => .inl (by simp)) harr⟩
      | goto l => exact ⟨_, a₁, w₁, ⟨f', m', h', r', hc', o', q⟩, .pass (x := .inLoop body) rfl (fun _ _ => .inl (by simp)) harr⟩
      | ret => exact ⟨_, a₁, w₁, ⟨f', m', h', r', hc', o', q⟩, .pass (x := .inLoop body) rfl (fun _ _ => .inl (by simp)) harr⟩
      | panic ch => exact ⟨_, a₁, w₁, ⟨f', m', h', r', hc', o', q⟩, .pass (x := .inLoop body) rfl (fun _ _ => .inl (by simp)) harr⟩
      | outgrown => exact ⟨_, a₁, w₁, ⟨f', m', h', r', hc', o', q⟩, .pass (x := .inLoop body) rfl (fun _ _ => .inl (by simp)) harr⟩
  obtain ⟨e, a', w', hq, harr⟩ := key k0 f m a w hp r hc o hI
  exact ⟨e, a', w', hq, .of_steps (.one step_loop) harr⟩

def slotsOk (f : Fr) : List (Nat × Value) → Prop
  | [] => True
  | (d, v) :: l => f d = v ∧ slotsOk f l
def setL (f : Fr) : List (Nat × Value) → Fr
  | [] => f
  | (d, v) :: l => upd (setL f l) d v
theorem setL_of {f : Fr} : ∀ {l : List (Nat × Value)}, slotsOk f l → setL f l = f
  | [], _ => rfl
  | (d, v) :: l, h => by
    obtain ⟨h1, h2⟩ := h
    rw [setL, setL_of h2, ← h1, upd_self]
/-- .. with a state: its slots, its blocks, what holds of it, its measure. -/
theorem J_loopS {σ : Type} {body : Code} (slots : σ → List (Nat × Value)) (mem : σ → Mem) (inv : σ → Prop) (meas : σ → Nat) (s0 : σ) (hf : slotsOk f (slots s0)) (hm : MEqv m (mem s0)) (hi : inv s0)
    (round : ∀ s f, inv s → J P G c n h0 body (thenQ (fun f' m' => ∃ s', meas s' < meas s ∧ inv s' ∧ slotsOk f' (slots s') ∧ MEqv m' (mem s')) Q) (setL f (slots s)) (mem s)) : J P G c n h0 (.loop body) Q f m := by
  refine J_loop (fun k f m => ∃ s, k = meas s ∧ inv s ∧ slotsOk f (slots s) ∧ MEqv m (mem s)) (k0 := meas s0) ⟨s0, rfl, hi, hf, hm⟩ ?_
  rintro k f m ⟨s, rfl, hi, hf, hm⟩
  have h1 := round s f hi
  rw [setL_of hf] at h1
  refine J_eqv hm (J_mono h1 ?_)
  intro e f' m' h
  cases e
  case normal =>
    obtain ⟨s', h1, h2, h3, h4⟩ := h
    exact ⟨meas s', h1, s', rfl, h2, h3, h4⟩
  all_goals exact h

theorem J_region {id : Nat} {l : List Oper} {draw : Bool} (hm : P.follows .mixedOrders = true)
    (hok : (!draw || fastOk l qs (List.range l.length)) = true) (h : RO P G qs c n h0 l.toArray (fun f m => Q .normal f m) l f m) :
    J P G c n h0 (.region id l.toArray draw) Q f m := by
  intro a w hp r hc o
  have hs := RO.sound (Q := fun f m => Q .normal f m) (List.range l.length) l (by
    apply List.ext_getElem?
    intro i
    rcases Nat.lt_or_ge i l.length with hi | hi
    · simp [hi]
    · simp [hi]) f m a hp r o h
  cases draw with
  | false =>
    refine region_text (qs := qs) (Ext.refl (h0 := h0) (G := G)) (QN := QN G n h0 fun f m => Q .normal f m) (fun a' h' w' hc' ⟨f', m', r', o', q⟩ => ⟨f', m', h', r', hc', o', q⟩) hc ?_
    rw [List.size_toArray]; exact hs
  | true => exact region_fast (Ext.refl (h0 := h0) (G := G)) Ext.trans (QN := QN G n h0 fun f m => Q .normal f m) hm (by simpa using hok) (fun a' h' w' hc' ⟨f', m', r', o', q⟩ => ⟨f', m', h', r', hc', o', q⟩) hc hs

theorem J_regionO {id : Nat} {l : List Oper} (ord : List Nat) {l' : List Oper} (hm : P.follows .mixedOrders = true)
    (hok : fastOk l qs ord = true) (hl : ord.map (l.toArray[·]?) = l'.map some) (h : RO P G qs c n h0 l.toArray (fun f m => Q .normal f m) l' f m) :
    J P G c n h0 (.region id l.toArray true) Q f m := by
  intro a w hp r hc o
  have hs := RO.sound (Q := fun f m => Q .normal f m) ord l' hl f m a hp r o h
  exact region_fast (Ext.refl (h0 := h0) (G := G)) Ext.trans (QN := QN G n h0 fun f m => Q .normal f m) hm hok (fun a' h' w' hc' ⟨f', m', r', o', q⟩ => ⟨f', m', h', r', hc', o', q⟩) hc hs

/-! Calls -/
variable (P G)
/-- In whatever world with this memory: the call returns; R of the value and of the memory then; nothing else that was there is turned. -/
def Trip (fn : FuncId) (args : Array Value) (m : Mem) (R : Value → Mem → Prop) : Prop :=
  ∀ c h w, At c h w → Own ⟨h, m.keys, false⟩ G m h → Calls P fn args w (fun e w' => ∃ v m' h', e = .returned v ∧ At c h' w' ∧ Own ⟨h, m.keys, false⟩ G m' h' ∧ R v m')
/-- .. and memory is as it was, to the block. -/
def Quiet (fn : FuncId) (args : Array Value) (m : Mem) (v : Value) : Prop :=
  ∀ c h w, At c h w → (∀ p ∈ m ++ G, h[p.1]? = some p.2.obj) → ((m ++ G).map (·.1)).Nodup → Calls P fn args w (fun e w' => e = .returned v ∧ At c h w')
variable {P G}

theorem Trip.mono {fn : FuncId} {args : Array Value} {R R' : Value → Mem → Prop} (t : Trip P G fn args m R) (h : ∀ v m', R v m' → R' v m') : Trip P G fn args m R' :=
  fun c h' w hc o => (t c h' w hc o).mono fun _ _ ⟨v, m', h'', e, hc', o', r⟩ => ⟨v, m', h'', e, hc', o', h _ _ r⟩

/-- What a function's body must come to: its results, the blocks that its caller hears of (post). -/
def Ends (P : Program) (G : Mem) (c : World) (fn : Func) (h0 : Base) (R : Value → Mem → Prop) : Exit → Fr → Mem → Prop
  | .normal, f, m | .ret, f, m => ∃ v post junk, (∀ (a : Act) (w : World) (h : Heap), Rep fn.ntmps a f → At c h w → Own h0 G m h → (results fn a.tmps).run P w = .ok v w) ∧
      MEqv m (post ++ junk) ∧ R v post
  | _, _, _ => False

def argsF (args : List Value) : Fr := fun i => args.getD i undef

theorem argsF_rep {k : Nat} {args : List Value} (hn : args.length ≤ k) : Rep k { tmps := args.toArray ++ Array.replicate (k - args.toArray.size) undef, defers := [] } (argsF args) := by
  refine ⟨by simp; omega, fun i => ?_, rfl⟩
  simp only [argsF, List.getD_eq_getElem?_getD, Array.getD_eq_getD_getElem?]
  rcases Nat.lt_or_ge i args.length with hi | hi
  · simp [Array.getElem?_append, hi]
  · rw [Array.getElem?_append_right (by simpa using hi)]
    simp only [List.size_toArray, Array.getElem?_replicate, List.getElem?_eq_none hi]
    split <;> rfl

theorem Trip_of {fid : FuncId} {fn : Func} {cd : Code} {args : List Value} {m : Mem} {R : Value → Mem → Prop} (hf : P.funcs[fid]? = some fn) (hb : fn.body = some cd)
    (hn : args.length ≤ fn.ntmps) (h : ∀ c h0, h0.ex = false → J P G c fn.ntmps h0 cd (Ends P G c fn h0 R) (argsF args) m) : Trip P G fid args.toArray m R := by
  intro c hp w hc o
  refine calls_of_wp hf hb ?_
  refine wp_mono (h c ⟨hp, m.keys, false⟩ rfl _ w hp ?_ hc o) ?_
  · exact argsF_rep hn
  · rintro e a' w' ⟨f', m', h', r', hc', o', q⟩
    cases e
    case normal =>
      obtain ⟨v, post, junk, hres, hp, hR⟩ := q
      exact ⟨r'.defers, v, hres a' w' h' r' hc' o', v, post, h', rfl, hc', (o'.eqv hp).drop, hR⟩
    case ret =>
      obtain ⟨v, post, junk, hres, hp, hR⟩ := q
      exact ⟨r'.defers, v, hres a' w' h' r' hc' o', v, post, h', rfl, hc', (o'.eqv hp).drop, hR⟩
    all_goals exact q.elim

/-- A call that leaves all as it is: all memory is handed over as what nobody turns. -/
theorem Quiet_of {fid : FuncId} {fn : Func} {cd : Code} {args : List Value} {m : Mem} {v : Value} (hf : P.funcs[fid]? = some fn) (hb : fn.body = some cd)
    (hn : args.length ≤ fn.ntmps)
    (h : ∀ c h0, J P (m ++ G) c fn.ntmps h0 cd (Ends P (m ++ G) c fn h0 (fun u _ => u = v)) (argsF args) []) : Quiet P G fid args.toArray m v := by
  intro c hp w hc hm hnd
  refine calls_of_wp hf hb ?_
  refine wp_mono (h c ⟨hp, [], true⟩ _ w hp ?_ hc ⟨Nat.le_refl _, by simpa using hm, by simpa using hnd, by simp, fun _ _ _ => rfl, fun _ => rfl⟩) ?_
  · exact argsF_rep hn
  · rintro e a' w' ⟨f', m', h', r', hc', o', q⟩
    have hh : h' = hp := o'.ex rfl
    subst hh
    cases e
    case normal =>
      obtain ⟨u, post, junk, hres, hp, rfl⟩ := q
      exact ⟨r'.defers, u, hres a' w' h' r' hc' o', rfl, hc'⟩
    case ret =>
      obtain ⟨u, post, junk, hres, hp, rfl⟩ := q
      exact ⟨r'.defers, u, hres a' w' h' r' hc' o', rfl, hc'⟩
    all_goals exact q.elim

end
end Go.Eng
