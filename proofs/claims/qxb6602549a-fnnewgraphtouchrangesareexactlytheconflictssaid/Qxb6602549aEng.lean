/-
  The small program logic of this seat: a frame is told by an assoc list 'slot -> value' (Env); one rule for each piece of code and each operation.
-/
import Derived.WalkKit
import Derived.Deep.LoopGhost
namespace Go.Proofs.Qxb6602549a
open Go Go.RowKit
set_option linter.unusedSimpArgs false
set_option linter.unusedVariables false

/-! ### Environments -/
abbrev Env := List (Nat × Value)

def look : Env → Nat → Option Value
  | [], _ => none
  | (j, v) :: r, i => bif Nat.beq j i then some v else look r i

theorem look_cons_eq (i : Nat) (v : Value) (e : Env) : look ((i, v) :: e) i = some v := by simp [look]
theorem look_cons_ne {i j : Nat} (h : j ≠ i) (v : Value) (e : Env) : look ((j, v) :: e) i = look e i := by
  simp only [look]
  have : Nat.beq j i = false := by
    cases hb : Nat.beq j i with
    | false => rfl
    | true => exact absurd (Nat.eq_of_beq_eq_true hb) h
  rw [this]; rfl

/-- What is known of a frame: its size, no deferred calls, some slots. -/
structure Knows (N : Nat) (a : Act) (e : Env) : Prop where
  size : a.tmps.size = N
  defs : a.defers = []
  val : ∀ i v, look e i = some v → a.tmps[i]? = some v

def opv (e : Env) : Operand → Option Value
  | .tmp t => look e t
  | .const v => some v
  | .global g => some (.pointer (some ⟨g, 0, none⟩))
  | .func f => some (.func (.func f) #[] #[])

theorem Knows.eval {N : Nat} {a : Act} {e : Env} {x : Operand} {v : Value} (h : Knows N a e) (hx : opv e x = some v) : a.eval x = v := by
  cases x with
  | tmp t =>
    have := h.val t v hx
    simp [Act.eval, this]
  | const u => simpa [opv, Act.eval] using hx
  | global g => simpa [opv, Act.eval] using hx
  | func f => simpa [opv, Act.eval] using hx

theorem Knows.put {N : Nat} {a : Act} {e : Env} (h : Knows N a e) (d : Nat) (hd : Nat.blt d N = true) (v : Value) : Knows N (a.put (some d) v) ((d, v) :: e) := by
  have hlt : d + 1 ≤ N := by simpa [Nat.blt] using hd
  refine ⟨by simp [Act.put, h.size], by simp [Act.put, h.defs], fun i u hi => ?_⟩
  by_cases hdi : d = i
  · subst hdi
    rw [look_cons_eq] at hi
    simp only [Option.some.injEq] at hi
    subst hi
    have : d < a.tmps.size := by rw [h.size]; exact hlt
    simp [Act.put, this]
  · rw [look_cons_ne hdi] at hi
    have := h.val i u hi
    simp [Act.put, Array.getElem?_setIfInBounds_ne hdi, this]

theorem Knows.put_none {N : Nat} {a : Act} {e : Env} (h : Knows N a e) (v : Value) : Knows N (a.put none v) e := h

/-- e' says no more than e. -/
def Sub : Env → Env → Prop
  | [], _ => True
  | (i, v) :: r, e => look e i = some v ∧ Sub r e

theorem Sub.look {e' e : Env} (h : Sub e' e) : ∀ i v, Go.Proofs.Qxb6602549a.look e' i = some v → Go.Proofs.Qxb6602549a.look e i = some v := by
  induction e' with
  | nil => intro i v hi; simp [Go.Proofs.Qxb6602549a.look] at hi
  | cons p r ih =>
    obtain ⟨j, u⟩ := p
    intro i v hi
    by_cases hji : j = i
    · subst hji
      rw [look_cons_eq] at hi
      simp only [Option.some.injEq] at hi
      subst hi
      exact h.1
    · rw [look_cons_ne hji] at hi
      exact ih h.2 i v hi

theorem Knows.sub {N : Nat} {a : Act} {e e' : Env} (h : Knows N a e) (hs : Sub e' e) : Knows N a e' :=
  ⟨h.size, h.defs, fun i v hi => h.val i v (hs.look i v hi)⟩

/-! ### Code -/
structure Post where
  norm : Env → World → Prop
  ex : Nat → Env → World → Prop
  ret : Env → World → Prop

def Post.q (N : Nat) (p : Post) : Exit → Act → World → Prop
  | .normal, a, w => ∃ e, Knows N a e ∧ p.norm e w
  | .exit i, a, w => ∃ e, Knows N a e ∧ p.ex i e w
  | .ret, a, w => ∃ e, Knows N a e ∧ p.ret e w
  | _, _, _ => False

structure CE (P : Program) (N : Nat) (c : Code) (e : Env) (w : World) (p : Post) : Prop where
  out : ∀ a, Knows N a e → Code.wp P c (p.q N) a w

section
variable {P : Program} {N : Nat} {e : Env} {w : World} {p : Post}

theorem CE.sub {c : Code} {e' : Env} (h : CE P N c e' w p) (hs : Sub e' e) : CE P N c e w p := ⟨fun a ha => h.out a (ha.sub hs)⟩

theorem CE.mono {c : Code} {q : Post} (h : CE P N c e w p) (hn : ∀ e w, p.norm e w → q.norm e w) (he : ∀ i e w, p.ex i e w → q.ex i e w) (hr : ∀ e w, p.ret e w → q.ret e w) : CE P N c e w q :=
  ⟨fun a ha => wp_mono (h.out a ha) fun x a w hq => by
    cases x with
    | normal => obtain ⟨e, h1, h2⟩ := hq; exact ⟨e, h1, hn _ _ h2⟩
    | exit i => obtain ⟨e, h1, h2⟩ := hq; exact ⟨e, h1, he _ _ _ h2⟩
    | ret => obtain ⟨e, h1, h2⟩ := hq; exact ⟨e, h1, hr _ _ h2⟩
    | goto l => exact hq
    | panic ch => exact hq
    | outgrown => exact hq⟩

theorem CE_seq {x y : Code} (h : CE P N x e w ⟨fun e w => CE P N y e w p, p.ex, p.ret⟩) : CE P N (.seq x y) e w p := ⟨fun a ha =>
  wp_seq (wp_mono (h.out a ha) fun x a w hq => by
    cases x with
    | normal => obtain ⟨e, h1, h2⟩ := hq; exact h2.out a h1
    | exit i => exact hq
    | ret => exact hq
    | goto l => exact hq
    | panic ch => exact hq
    | outgrown => exact hq)⟩

theorem CE_skip (h : p.norm e w) : CE P N .skip e w p := ⟨fun _ ha => wp_skip ⟨e, ha, h⟩⟩
theorem CE_ret (h : p.ret e w) : CE P N .ret e w p := ⟨fun _ ha => wp_ret ⟨e, ha, h⟩⟩
theorem CE_exit {i : Nat} (h : p.ex i e w) : CE P N (.exit i) e w p := ⟨fun _ ha => wp_exit ⟨e, ha, h⟩⟩

theorem CE_cond {c : Operand} {x y : Code} {b : Bool} (hc : opv e c = some (.bool b)) (ht : b = true → CE P N x e w p) (hf : b = false → CE P N y e w p) : CE P N (.cond c x y) e w p :=
  ⟨fun a ha => wp_cond_split (ha.eval hc) (fun h => (ht h).out a ha) (fun h => (hf h).out a ha)⟩
theorem CE_cond_t {c : Operand} {x y : Code} (hc : opv e c = some (.bool true)) (ht : CE P N x e w p) : CE P N (.cond c x y) e w p :=
  ⟨fun a ha => wp_cond_true (ha.eval hc) (ht.out a ha)⟩
theorem CE_cond_f {c : Operand} {x y : Code} (hc : opv e c = some (.bool false)) (hf : CE P N y e w p) : CE P N (.cond c x y) e w p :=
  ⟨fun a ha => wp_cond_false (ha.eval hc) (hf.out a ha)⟩

theorem CE_block {i : Nat} {c : Code} (h : CE P N c e w ⟨p.norm, fun j e w => bif Nat.beq j i then p.norm e w else p.ex j e w, p.ret⟩) : CE P N (.block i c) e w p := ⟨fun a ha =>
  wp_block (wp_mono (h.out a ha) fun x a w hq => by
    cases x with
    | normal => exact hq
    | exit j =>
      obtain ⟨e, h1, h2⟩ := hq
      simp only [Exit.inBlock]
      by_cases hj : j = i
      · subst hj
        rw [if_pos rfl]
        refine ⟨e, h1, ?_⟩
        simpa using h2
      · rw [if_neg hj]
        refine ⟨e, h1, ?_⟩
        have : Nat.beq j i = false := by
          cases hb : Nat.beq j i with
          | false => rfl
          | true => exact absurd (Nat.eq_of_beq_eq_true hb) hj
        have h3 : (bif Nat.beq j i then p.norm e w else p.ex j e w) := h2
        rw [this] at h3
        exact h3
    | ret => exact hq
    | goto l => exact hq
    | panic ch => exact hq
    | outgrown => exact hq)⟩

theorem CE_loop {c : Code} {G : Type} (I : G → World → Prop) (E : G → Env) (m : G → Nat) (g0 : G) (h0 : I g0 w) (hs : Sub (E g0) e)
    (round : ∀ g w, I g w → CE P N c (E g) w ⟨fun e' w' => ∃ g', m g' < m g ∧ Sub (E g') e' ∧ I g' w', p.ex, p.ret⟩) : CE P N (.loop c) e w p := by
  refine ⟨fun a ha => ?_⟩
  refine wp_loop_ghost (fun n a w => ∃ g, m g = n ∧ Knows N a (E g) ∧ I g w) (m g0) ⟨g0, rfl, ha.sub hs, h0⟩ ?_
  rintro n a w ⟨g, rfl, hk, hI⟩
  refine wp_mono ((round g w hI).out a hk) fun x a w hq => ?_
  cases x with
  | normal =>
    obtain ⟨e', h1, g', h2, h3, h4⟩ := hq
    exact ⟨m g', h2, g', rfl, h1.sub h3, h4⟩
  | exit i => exact hq
  | ret => exact hq
  | goto l => exact hq
  | panic ch => exact hq
  | outgrown => exact hq

/-! ### Regions -/
def Kq (N : Nat) (K : Env → World → Prop) : Exit → Act → World → Prop
  | .normal, a, w => ∃ e, Knows N a e ∧ K e w
  | _, _, _ => False

structure EL (P : Program) (N : Nat) (full l : List Oper) (e : Env) (w : World) (K : Env → World → Prop) : Prop where
  out : ∀ a, Knows N a e → wpList P full.toArray (Kq N K) l a w

theorem Kq_mono {K : Env → World → Prop} (hK : ∀ e w, K e w → p.norm e w) : ∀ x a w, Kq N K x a w → p.q N x a w := fun x a w hq => by
  cases x with
  | normal => obtain ⟨e, h1, h2⟩ := hq; exact ⟨e, h1, hK _ _ h2⟩
  | exit i => exact hq.elim
  | ret => exact hq.elim
  | goto l => exact hq.elim
  | panic ch => exact hq.elim
  | outgrown => exact hq.elim

theorem CE_reg {id : Nat} {l : List Oper} (h : EL P N l l e w p.norm) : CE P N (.region id l.toArray false) e w p := ⟨fun a ha =>
  wp_mono (wp_region_lit (h.out a ha)) (Kq_mono fun _ _ h => h)⟩

variable {full rest : List Oper} {K : Env → World → Prop} {op : Op} {ty : TypeId} {pos : String} {af : Array Edge} {d : Nat}

theorem EL_nil (h : K e w) : EL P N full [] e w K := ⟨fun a ha => ⟨e, ha, h⟩⟩
theorem EL.sub {l : List Oper} {e' : Env} (h : EL P N full l e' w K) (hs : Sub e' e) : EL P N full l e w K := ⟨fun a ha => h.out a (ha.sub hs)⟩

/-- An operation that yields v in whatever world. -/
structure Pu (P : Program) (N : Nat) (op : Op) (ty : TypeId) (e : Env) (v : Value) : Prop where
  out : ∀ a, Knows N a e → ∀ dst pos af g w, (execOp a.eval { dst := dst, op := op, type := ty, pos := pos, after := af, guard := g }).run P w = .ok (.value v) w

/-- An operation that yields v in the worlds that meet S. -/
structure PuIf (P : Program) (N : Nat) (S : World → Prop) (op : Op) (ty : TypeId) (e : Env) (v : Value) : Prop where
  out : ∀ a, Knows N a e → ∀ dst pos af g w, S w → (execOp a.eval { dst := dst, op := op, type := ty, pos := pos, after := af, guard := g }).run P w = .ok (.value v) w

theorem Pu.toIf {S : World → Prop} {v : Value} (h : Pu P N op ty e v) : PuIf P N S op ty e v := ⟨fun a ha dst pos af g w _ => h.out a ha dst pos af g w⟩

theorem EL_p {v : Value} (h : Pu P N op ty e v) (hd : Nat.blt d N = true) (h2 : EL P N full rest ((d, v) :: e) w K) :
    EL P N full ({ dst := some d, op := op, type := ty, pos := pos, after := af, guard := none } :: rest) e w K := ⟨fun a ha =>
  wpList_plain rfl fun K' hK' => by
    simp only [Oper.wp, h.out a ha, Oper.upon]
    exact hK' _ _ (h2.out _ (ha.put d hd v))⟩

theorem EL_i {v : Value} {S : World → Prop} (h : PuIf P N S op ty e v) (hS : S w) (hd : Nat.blt d N = true) (h2 : EL P N full rest ((d, v) :: e) w K) :
    EL P N full ({ dst := some d, op := op, type := ty, pos := pos, after := af, guard := none } :: rest) e w K := ⟨fun a ha =>
  wpList_plain rfl fun K' hK' => by
    simp only [Oper.wp, h.out a ha _ _ _ _ w hS, Oper.upon]
    exact hK' _ _ (h2.out _ (ha.put d hd v))⟩

/-- An operation that acts: told by what it leaves. 'Lo op ty e w R': carried out in w it yields a value v in a world w' of which R holds; or it enters a function that does so. -/
structure Lo (P : Program) (N : Nat) (op : Op) (ty : TypeId) (e : Env) (w : World) (R : Value → World → Prop) : Prop where
  out : ∀ a, Knows N a e → ∀ dst pos af g,
    (∃ v w', (execOp a.eval { dst := dst, op := op, type := ty, pos := pos, after := af, guard := g }).run P w = .ok (.value v) w' ∧ R v w') ∨
    (∃ w', (execOp a.eval { dst := dst, op := op, type := ty, pos := pos, after := af, guard := g }).run P w = .ok .skip w' ∧ R undef w') ∨
    (∃ f args, (execOp a.eval { dst := dst, op := op, type := ty, pos := pos, after := af, guard := g }).run P w = .ok (.enter f args) w ∧ Calls P f args w fun x w' => ∃ v, x = .returned v ∧ R v w')

theorem Lo.mono {R R' : Value → World → Prop} (h : Lo P N op ty e w R) (hR : ∀ v w', R v w' → R' v w') : Lo P N op ty e w R' := by
  refine ⟨fun a ha dst pos af g => ?_⟩
  rcases h.out a ha dst pos af g with ⟨v, w', h1, h2⟩ | ⟨w', h1, h2⟩ | ⟨f, args, h1, h2⟩
  · exact .inl ⟨v, w', h1, hR _ _ h2⟩
  · exact .inr (.inl ⟨w', h1, hR _ _ h2⟩)
  · exact .inr (.inr ⟨f, args, h1, h2.mono fun x w' ⟨v, hx, hv⟩ => ⟨v, hx, hR _ _ hv⟩⟩)

theorem Lo.oper {R : Value → World → Prop} {a : Act} {o : Oper} {K' : Act → World → Prop} {Q : Exit → Act → World → Prop} (h : Lo P N o.op o.type e w R) (ha : Knows N a e)
    (hK : ∀ v w', R v w' → K' (a.put o.dst v) w') : o.wp P a w K' Q := by
  obtain ⟨dst, op, type, pos, after, guard⟩ := o
  simp only at h
  rcases h.out a ha dst pos after guard with ⟨v, w', h1, h2⟩ | ⟨w', h1, h2⟩ | ⟨f, args, h1, h2⟩
  · simp only [Oper.wp, h1, Oper.upon]; exact hK _ _ h2
  · simp only [Oper.wp, h1, Oper.upon]; exact hK _ _ h2
  · simp only [Oper.wp, h1, Oper.upon]
    exact h2.mono fun x w' ⟨v, hx, hv⟩ => by subst hx; exact hK _ _ hv

theorem EL_l {R : Value → World → Prop} (h : Lo P N op ty e w R) (hd : Nat.blt d N = true) (h2 : ∀ v w', R v w' → EL P N full rest ((d, v) :: e) w' K) :
    EL P N full ({ dst := some d, op := op, type := ty, pos := pos, after := af, guard := none } :: rest) e w K := ⟨fun a ha =>
  wpList_plain rfl fun K' hK' => Lo.oper (o := { dst := some d, op := op, type := ty, pos := pos, after := af, guard := none }) h ha fun v w' hR => hK' _ _ ((h2 v w' hR).out _ (ha.put d hd v))⟩

theorem EL_l0 {R : Value → World → Prop} (h : Lo P N op ty e w R) (h2 : ∀ v w', R v w' → EL P N full rest e w' K) :
    EL P N full ({ dst := none, op := op, type := ty, pos := pos, after := af, guard := none } :: rest) e w K := ⟨fun a ha =>
  wpList_plain rfl fun K' hK' => Lo.oper (o := { dst := none, op := op, type := ty, pos := pos, after := af, guard := none }) h ha fun v w' hR => hK' _ _ ((h2 v w' hR).out _ ha)⟩

theorem EL_L (hd : Nat.blt d N = true) (h : Lo P N op ty e w fun v w' => EL P N full rest ((d, v) :: e) w' K) :
    EL P N full ({ dst := some d, op := op, type := ty, pos := pos, after := af, guard := none } :: rest) e w K := EL_l h hd fun _ _ h => h
theorem EL_L0 (h : Lo P N op ty e w fun v w' => EL P N full rest e w' K) :
    EL P N full ({ dst := none, op := op, type := ty, pos := pos, after := af, guard := none } :: rest) e w K := EL_l0 h fun _ _ h => h

/-! ### Guards -/
def dstAt : List Oper → Nat → Option Nat
  | [], _ => none
  | o :: _, 0 => o.dst
  | _ :: r, j + 1 => dstAt r j

theorem dstAt_eq (l : List Oper) : ∀ j, (l.toArray[j]?).bind (·.dst) = dstAt l j := by
  induction l with
  | nil => intro j; simp [dstAt]
  | cons o r ih =>
    intro j
    cases j with
    | zero => simp [dstAt]
    | succ j => have := ih j; simpa [dstAt] using this

theorem Knows.yielded {a : Act} {j t : Nat} {b : Bool} (ha : Knows N a e) (hj : dstAt full j = some t) (ht : look e t = some (.bool b)) : yielded full.toArray a.tmps j = some b := by
  unfold Go.yielded
  rw [dstAt_eq, hj]
  simp [ha.val t _ ht]

theorem EL_yes {dst : Option Nat} {j t : Nat} {want : Bool} (hj : dstAt full j = some t) (ht : look e t = some (.bool want))
    (h : EL P N full ({ dst := dst, op := op, type := ty, pos := pos, after := af, guard := none } :: rest) e w K) :
    EL P N full ({ dst := dst, op := op, type := ty, pos := pos, after := af, guard := some (j, want) } :: rest) e w K := by
  refine ⟨fun a ha => ?_⟩
  have h1 := h.out a ha
  have hy := ha.yielded hj ht
  simp only [wpList, Region.wanted, if_true] at h1
  simp only [wpList, Region.wanted, hy, beq_self_eq_true, if_true]
  exact h1

theorem EL_no {j t : Nat} {want b : Bool} (hj : dstAt full j = some t) (ht : look e t = some (.bool b)) (hb : (b == want) = false) (hd : Nat.blt d N = true)
    (h : EL P N full rest ((d, undef) :: e) w K) :
    EL P N full ({ dst := some d, op := op, type := ty, pos := pos, after := af, guard := some (j, want) } :: rest) e w K := by
  refine ⟨fun a ha => ?_⟩
  have hy := ha.yielded hj ht
  refine wpList_skip ?_ (h.out _ (ha.put d hd undef))
  simp only [Region.wanted, hy]
  simpa using hb

/-- A slot that holds a Bool: part on it. -/
theorem EL_split {l : List Oper} (t : Nat) {b : Bool} (ht : look e t = some (.bool b)) (h1 : b = true → EL P N full l ((t, .bool true) :: e) w K) (h2 : b = false → EL P N full l ((t, .bool false) :: e) w K) : EL P N full l e w K := by
  have key : ∀ c, b = c → EL P N full l ((t, .bool c) :: e) w K → EL P N full l e w K := fun c hc h => ⟨fun a ha => h.out a ⟨ha.size, ha.defs, fun i v hi => by
    by_cases hti : t = i
    · subst hti
      rw [look_cons_eq] at hi
      simp only [Option.some.injEq] at hi
      subst hi; subst hc
      exact ha.val _ _ ht
    · rw [look_cons_ne hti] at hi; exact ha.val i v hi⟩⟩
  cases b with
  | true => exact key true rfl (h1 rfl)
  | false => exact key false rfl (h2 rfl)

/-! ### Calls -/
def argEnv : Nat → List Value → Env
  | _, [] => []
  | k, v :: r => (k, v) :: argEnv (k + 1) r

theorem look_argEnv (vs : List Value) : ∀ k i v, look (argEnv k vs) i = some v → k ≤ i ∧ vs[i - k]? = some v := by
  induction vs with
  | nil => intro k i v h; simp [argEnv, look] at h
  | cons u r ih =>
    intro k i v h
    by_cases hk : k = i
    · subst hk
      rw [argEnv, look_cons_eq] at h
      simpa using h
    · rw [argEnv, look_cons_ne hk] at h
      obtain ⟨h1, h2⟩ := ih _ _ _ h
      refine ⟨by omega, ?_⟩
      have : i - k = (i - (k + 1)) + 1 := by omega
      rw [this]
      simpa using h2

def resVals (e : Env) : List ResultVar → Option (List Value)
  | [] => some []
  | .tmp t :: r => match look e t, resVals e r with
    | some v, some vs => some (v :: vs)
    | _, _ => none
  | _ :: _ => none

def resOf : List Value → Value
  | [v] => v
  | vs => .tuple vs.toArray

theorem results_run {a : Act} (ha : Knows N a e) (fn : Func) (l : List ResultVar) (hl : fn.results = l.toArray) (vs : List Value) (h : resVals e l = some vs) (w : World) :
    (results fn a.tmps).run P w = .ok (resOf vs) w := by
  have key : ∀ (g : ResultVar → Sem Value), (∀ t, g (.tmp t) = pure (a.tmps.getD t undef)) → ∀ (l : List ResultVar) vs, resVals e l = some vs → Sem.run P (l.mapM g) w = .ok vs w := by
    intro g hg l
    induction l with
    | nil => intro vs h; simp [resVals] at h; subst h; simp
    | cons x r ih =>
      intro vs h
      cases x with
      | tmp t =>
        simp only [resVals] at h
        cases ht : look e t with
        | none => simp [ht] at h
        | some v =>
          cases hr : resVals e r with
          | none => simp [ht, hr] at h
          | some us =>
            simp only [ht, hr, Option.some.injEq] at h
            subst h
            have h1 := ha.val t v ht
            have h2 := ih us hr
            simp only [List.mapM_cons, Sem.run_bind, hg, Sem.run_pure]
            simp [h1, h2]
      | cell b t => simp [resVals] at h
  have hres : ∀ (vs : List Value), (if h : vs.toArray.size = 1 then vs.toArray[0] else Value.tuple vs.toArray) = resOf vs := by
    intro vs
    match vs with
    | [] => simp [resOf]
    | [v] => simp [resOf]
    | u :: v :: r => simp [resOf]
  unfold results
  rw [hl]
  simp only [List.mapM_toArray, Sem.run_bind, Sem.run_map, map_pure]
  rw [key _ (fun t => rfl) l vs h]
  simp [hres]

end
end Go.Proofs.Qxb6602549a
