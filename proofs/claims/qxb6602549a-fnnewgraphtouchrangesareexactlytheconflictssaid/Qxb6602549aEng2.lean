/-
  The small program logic, part 2: calls; regions that draw their order.
-/
import Derived.Test.Qxb6602549aEng
namespace Go.Proofs.Qxb6602549a
open Go Go.RowKit
set_option linter.unusedSimpArgs false
set_option linter.unusedVariables false

section
variable {P : Program} {N : Nat} {e : Env} {w : World} {p : Post}

/-! ### Functions -/
def Fin (rs : List ResultVar) (R : Ending → World → Prop) (e : Env) (w : World) : Prop := ∃ vs, resVals e rs = some vs ∧ R (.returned (resOf vs)) w

theorem calls_CE {f : FuncId} {fn : Func} {c : Code} {rs : List ResultVar} {args : List Value} {R : Ending → World → Prop} (hf : P.funcs[f]? = some fn) (hb : fn.body = some c) (hN : fn.ntmps = N)
    (hres : fn.results = rs.toArray) (hargs : Nat.ble args.length N = true) (h : CE P N c (argEnv 0 args) w ⟨Fin rs R, fun _ _ _ => False, Fin rs R⟩) : Calls P f args.toArray w R := by
  have hle : args.length ≤ N := Nat.le_of_ble_eq_true hargs
  refine calls_of_wp hf hb (wp_mono (h.out _ ?_) ?_)
  · refine ⟨by simp [hN]; omega, rfl, fun i v hi => ?_⟩
    obtain ⟨_, h2⟩ := look_argEnv args 0 i v hi
    simp only [Nat.sub_zero] at h2
    have hlt : i < args.length := (List.getElem?_eq_some_iff.1 h2).1
    rw [Array.getElem?_append_left (by simpa using hlt)]
    simpa using h2
  · intro x a w hq
    cases x with
    | normal =>
      obtain ⟨e, h1, vs, h2, h3⟩ := hq
      exact ⟨h1.defs, _, results_run h1 fn rs hres vs h2 w, h3⟩
    | ret =>
      obtain ⟨e, h1, vs, h2, h3⟩ := hq
      exact ⟨h1.defs, _, results_run h1 fn rs hres vs h2 w, h3⟩
    | exit i => obtain ⟨e, _, h2⟩ := hq; exact h2
    | goto l => exact hq
    | panic ch => exact hq.elim
    | outgrown => exact hq.elim

/-! ### Tests and guards, in Prop's form -/
theorem CE_cP {c : Operand} {x y : Code} {q : Prop} {dq : Decidable q} (hc : opv e c = some (.bool (@decide q dq))) (ht : q → CE P N x e w p) (hf : ¬ q → CE P N y e w p) : CE P N (.cond c x y) e w p :=
  CE_cond hc (fun h => ht (of_decide_eq_true h)) (fun h => hf (of_decide_eq_false h))
theorem CE_cN {c : Operand} {x y : Code} {q : Prop} {dq : Decidable q} (hc : opv e c = some (.bool (!@decide q dq))) (ht : ¬ q → CE P N x e w p) (hf : q → CE P N y e w p) : CE P N (.cond c x y) e w p :=
  CE_cond hc (fun h => ht (of_decide_eq_false (by simpa using h))) (fun h => hf (of_decide_eq_true (by simpa using h)))
theorem CE_cB {c : Operand} {x y : Code} {b : Bool} (hc : opv e c = some (.bool (!b))) (ht : b = false → CE P N x e w p) (hf : b = true → CE P N y e w p) : CE P N (.cond c x y) e w p :=
  CE_cond hc (fun h => ht (by simpa using h)) (fun h => hf (by simpa using h))

/-- what follows a piece of code is walked once, from a smaller environment -/
theorem CE_mid {x y : Code} (e1 : Env) (h1 : CE P N x e w ⟨fun e' w' => w' = w ∧ Sub e1 e', p.ex, p.ret⟩) (h2 : CE P N y e1 w p) : CE P N (.seq x y) e w p :=
  CE_seq (h1.mono (fun e' w' ⟨hw, hs⟩ => by subst hw; exact h2.sub hs) (fun _ _ _ h => h) (fun _ _ h => h))
theorem CE_midI {x y : Code} (e1 : Env) (I : World → Prop) (h1 : CE P N x e w ⟨fun e' w' => I w' ∧ Sub e1 e', p.ex, p.ret⟩) (h2 : ∀ w', I w' → CE P N y e1 w' p) : CE P N (.seq x y) e w p :=
  CE_seq (h1.mono (fun e' w' ⟨hw, hs⟩ => (h2 w' hw).sub hs) (fun _ _ _ h => h) (fun _ _ h => h))

theorem CE_midG {G : Type} {x y : Code} (e1 : G → Env) (I : G → World → Prop) (h1 : CE P N x e w ⟨fun e' w' => ∃ g, I g w' ∧ Sub (e1 g) e', p.ex, p.ret⟩) (h2 : ∀ g w', I g w' → CE P N y (e1 g) w' p) : CE P N (.seq x y) e w p :=
  CE_seq (h1.mono (fun e' w' ⟨g, hw, hs⟩ => (h2 g w' hw).sub hs) (fun _ _ _ h => h) (fun _ _ h => h))

section
variable {full rest : List Oper} {K : Env → World → Prop} {op : Op} {ty : TypeId} {pos : String} {af : Array Edge} {dst : Option Nat} {j t : Nat} {want : Bool}
/-- a guard that is not decided: part on it -/
theorem EL_gP {q : Prop} {dq : Decidable q} (hj : dstAt full j = some t) (ht : look e t = some (.bool (@decide q dq)))
    (h1 : q → EL P N full ({ dst := dst, op := op, type := ty, pos := pos, after := af, guard := some (j, want) } :: rest) ((t, .bool true) :: e) w K)
    (h2 : ¬ q → EL P N full ({ dst := dst, op := op, type := ty, pos := pos, after := af, guard := some (j, want) } :: rest) ((t, .bool false) :: e) w K) :
    EL P N full ({ dst := dst, op := op, type := ty, pos := pos, after := af, guard := some (j, want) } :: rest) e w K :=
  EL_split t ht (fun h => h1 (of_decide_eq_true h)) (fun h => h2 (of_decide_eq_false h))
theorem EL_gN {q : Prop} {dq : Decidable q} (hj : dstAt full j = some t) (ht : look e t = some (.bool (!@decide q dq)))
    (h1 : ¬ q → EL P N full ({ dst := dst, op := op, type := ty, pos := pos, after := af, guard := some (j, want) } :: rest) ((t, .bool true) :: e) w K)
    (h2 : q → EL P N full ({ dst := dst, op := op, type := ty, pos := pos, after := af, guard := some (j, want) } :: rest) ((t, .bool false) :: e) w K) :
    EL P N full ({ dst := dst, op := op, type := ty, pos := pos, after := af, guard := some (j, want) } :: rest) e w K :=
  EL_split t ht (fun h => h1 (of_decide_eq_false (by simpa using h))) (fun h => h2 (of_decide_eq_true (by simpa using h)))
theorem EL_gB {b : Bool} (hj : dstAt full j = some t) (ht : look e t = some (.bool b))
    (h1 : b = true → EL P N full ({ dst := dst, op := op, type := ty, pos := pos, after := af, guard := some (j, want) } :: rest) ((t, .bool true) :: e) w K)
    (h2 : b = false → EL P N full ({ dst := dst, op := op, type := ty, pos := pos, after := af, guard := some (j, want) } :: rest) ((t, .bool false) :: e) w K) :
    EL P N full ({ dst := dst, op := op, type := ty, pos := pos, after := af, guard := some (j, want) } :: rest) e w K := EL_split t ht h1 h2
end

def opvs (e : Env) : List Operand → Option (List Value)
  | [] => some []
  | x :: r => match opv e x, opvs e r with
    | some v, some vs => some (v :: vs)
    | _, _ => none

theorem Knows.evals {a : Act} (ha : Knows N a e) : ∀ (xs : List Operand) (vs : List Value), opvs e xs = some vs → xs.map a.eval = vs := by
  intro xs
  induction xs with
  | nil => intro vs h; simp [opvs] at h; subst h; rfl
  | cons x r ih =>
    intro vs h
    simp only [opvs] at h
    cases hx : opv e x with
    | none => simp [hx] at h
    | some v =>
      cases hr : opvs e r with
      | none => simp [hx, hr] at h
      | some us =>
        simp only [hx, hr, Option.some.injEq] at h
        subst h
        simp [ha.eval hx, ih us hr]

/-- A function that can be entered. -/
def Callable (P : Program) (f : FuncId) : Prop := ∃ fn, P.funcs[f]? = some fn ∧ (fn.name == "runtime.NumGoroutine") = false ∧ fn.body.isNone = false

variable {full rest : List Oper} {K : Env → World → Prop} {op : Op} {ty : TypeId} {pos : String} {af : Array Edge} {d : Nat}

theorem Lo_call {xs : List Operand} {vs : List Value} {f : FuncId} {ats : Array TypeId} {R : Value → World → Prop} (hc : Callable P f) (hv : opvs e xs = some vs)
    (h : Calls P f vs.toArray w fun x w' => ∃ v, x = .returned v ∧ R v w') : Lo P N (.call { callee := .value (.func f), args := xs.toArray, argTypes := ats }) ty e w R := by
  refine ⟨fun a ha dst pos af g => ?_⟩
  refine .inr (.inr ⟨f, vs.toArray, ?_, h⟩)
  obtain ⟨fn, h1, h2, h3⟩ := hc
  have hm : xs.toArray.map a.eval = vs.toArray := by rw [← ha.evals xs vs hv]; simp
  simp only [execOp, resolve, hm, Act.eval, Deferred.ofValue]
  simp only [Sem.run_bind, Sem.run_pure, Result.andThen_ok, invoke, callFunc]
  have h2' : ¬ fn.name = "runtime.NumGoroutine" := by simpa using h2
  have h3' : ¬ fn.body = none := fun h => by rw [h] at h3; cases h3
  simp [program, Sem.run, h1, h2', h3']

/-! ### A region that draws its order: one order, chosen by us, serves all -/
variable {ops : Array Oper} {Q : Exit → Act → World → Prop} {md : Region.Mode} {S : World → Prop}

/-- What is listed is closed under the edges that bind. -/
def Closed (md : Region.Mode) (ops : Array Oper) (listed : Array Bool) : Prop :=
  ∀ (k : Nat) (o : Oper), ops[k]? = some o → listed.getD k false = true → ∀ x ∈ o.after, Region.binds md x = true → listed.getD x.on false = true

theorem Closed.start (n : Nat) : Closed md ops (Array.replicate n false) := fun k o _ hl => by
  rcases Nat.lt_or_ge k n with h | h
  · simp [h] at hl
  · simp [Array.getElem?_eq_none (xs := Array.replicate n false) (i := k) (by simpa using h)] at hl

theorem Closed.set {listed : Array Bool} {i : Nat} (h : Closed md ops listed) (hi : i ∈ Region.ready md ops listed) : Closed md ops (listed.setIfInBounds i true) := fun k o hk hl x hx hb => by
  obtain ⟨_, oi, hoi, hall⟩ := mem_ready.1 hi
  by_cases hik : i = k
  · subst hik
    have : o = oi := Option.some.inj (hk.symm.trans hoi)
    subst this
    exact getD_set_true (hall x hx hb)
  · rw [getD_set_ne false hik] at hl
    exact getD_set_true (h k o hk hl x hx hb)

/-- Which operations can have come up while number k has not: one pass over the operations in their order. -/
def mpass (md : Region.Mode) (k : Nat) : List Oper → List Bool → List Bool
  | [], acc => acc
  | o :: r, acc => mpass md k r (acc ++ [!(Nat.beq acc.length k) && o.after.all fun x => !Region.binds md x || acc.getD x.on false])

def fwdB (md : Region.Mode) : List Oper → Nat → Bool
  | [], _ => true
  | o :: r, i => (o.after.all fun x => !Region.binds md x || Nat.blt x.on i) && fwdB md r (i + 1)

theorem mpass_spec (md : Region.Mode) (k : Nat) (listed : Array Bool) (hk : listed.getD k true = false) : ∀ (l : List Oper) (acc : List Bool),
    fwdB md l acc.length = true →
    (∀ (q : Nat) (o : Oper), l[q]? = some o → listed.getD (acc.length + q) false = true → ∀ x ∈ o.after, Region.binds md x = true → listed.getD x.on false = true) →
    (∀ q, q < acc.length → listed.getD q false = true → acc.getD q false = true) →
    (∀ q o, l[q]? = some o → acc.length + q ≠ k → (∀ x ∈ o.after, Region.binds md x = true → listed.getD x.on false = true) → (mpass md k l acc).getD (acc.length + q) false = true) := by
  intro l
  induction l with
  | nil => intro acc _ _ _ q o h; simp at h
  | cons o r ih =>
    intro acc hf hcl hacc q oq hq hne hdeps
    simp only [fwdB, Bool.and_eq_true] at hf
    obtain ⟨hf1, hf2⟩ := hf
    let v : Bool := !(Nat.beq acc.length k) && o.after.all fun x => !Region.binds md x || acc.getD x.on false
    have hv : ∀ (_ : acc.length ≠ k) (_ : ∀ x ∈ o.after, Region.binds md x = true → listed.getD x.on false = true), v = true := fun h1 h2 => by
      have hb : Nat.beq acc.length k = false := by
        cases hb : Nat.beq acc.length k with
        | false => rfl
        | true => exact absurd (Nat.eq_of_beq_eq_true hb) h1
      simp only [v, hb, Bool.not_false, Bool.true_and, Array.all_eq_true_iff_forall_mem, Bool.or_eq_true, Bool.not_eq_true']
      intro x hx
      cases hbx : Region.binds md x with
      | false => exact .inl rfl
      | true =>
        refine .inr (hacc x.on ?_ (h2 x hx hbx))
        have h3 := Array.all_eq_true_iff_forall_mem.1 hf1 x hx
        simp only [hbx, Bool.not_true, Bool.false_or] at h3
        have h4 : x.on + 1 ≤ acc.length := by simpa [Nat.blt] using h3
        exact h4
    have keep : ∀ (l : List Oper) (a : List Bool) (q : Nat), q < a.length → (mpass md k l a).getD q false = a.getD q false := by
      intro l
      induction l with
      | nil => intro a q _; rfl
      | cons o r ih2 =>
        intro a q hqa
        simp only [mpass]
        rw [ih2 _ q (by simp; omega)]
        simp [List.getElem?_append_left hqa]
    have hlen : (acc ++ [v]).length = acc.length + 1 := by simp
    have key := ih (acc ++ [v]) (by rw [hlen]; exact hf2) (fun q' o' hq' hl x hx hb => hcl (q' + 1) o' (by simpa using hq') (by rw [hlen] at hl; rw [show acc.length + (q' + 1) = acc.length + 1 + q' by omega]; exact hl) x hx hb) (fun q' hq' hl => by
      rw [hlen] at hq'
      by_cases h1 : q' < acc.length
      · have := hacc q' h1 hl
        simpa [List.getElem?_append_left h1] using this
      · have h2 : q' = acc.length := by omega
        subst h2
        have hne2 : acc.length ≠ k := fun h => by
          subst h
          rcases Nat.lt_or_ge acc.length listed.size with h' | h'
          · simp [h'] at hk hl; rw [hk] at hl; cases hl
          · simp [Array.getElem?_eq_none h'] at hl
        have := hv hne2 (hcl 0 o (by simp) (by simpa using hl))
        simp [this])
    cases q with
    | zero =>
      simp only [List.getElem?_cons_zero, Option.some.injEq] at hq
      subst hq
      simp only [mpass, Nat.add_zero]
      rw [keep r _ acc.length (by simp)]
      have := hv (by simpa using hne) hdeps
      simp [v] at this ⊢
      exact this
    | succ q =>
      have h5 := key q oq (by simpa using hq) (by rw [hlen]; omega) hdeps
      simp only [mpass]
      rw [hlen] at h5
      rw [show acc.length + (q + 1) = acc.length + 1 + q by omega]
      exact h5

/-- Number i can come up only when all others have. -/
def sinkB (md : Region.Mode) (ops : Array Oper) (i : Nat) : Bool :=
  fwdB md ops.toList 0 && (List.range ops.size).all fun k => Nat.beq k i || !((mpass md k ops.toList []).getD i false)

theorem sinkB_no {i j : Nat} {listed : Array Bool} (hcl : Closed md ops listed) (hj : j ∈ Region.ready md ops listed) (hi : i < ops.size) (hun : listed.getD i true = false) (hne : j ≠ i) : sinkB md ops j = false := by
  cases hb : sinkB md ops j with
  | false => rfl
  | true =>
    exfalso
    simp only [sinkB, Bool.and_eq_true] at hb
    obtain ⟨hf, hall⟩ := hb
    have h1 := List.all_eq_true.1 hall i (List.mem_range.2 hi)
    have hbeq : Nat.beq i j = false := by
      cases hb : Nat.beq i j with
      | false => rfl
      | true => exact absurd (Nat.eq_of_beq_eq_true hb).symm hne
    rw [hbeq, Bool.false_or] at h1
    obtain ⟨hjun, oj, hoj, hdeps⟩ := mem_ready.1 hj
    have h2 := mpass_spec md i listed hun ops.toList [] hf (fun q o hq hl x hx hbx => hcl q o (by simpa using hq) (by simpa using hl) x hx hbx) (by simp) j oj (by simpa using hoj) (by simpa using hne) hdeps
    simp only [List.length_nil, Nat.zero_add] at h2
    rw [h2] at h1
    cases h1

/-- Whatever order is picked from here on; S holds behind every operation but a sink. -/
def wpAnyX (P : Program) (md : Region.Mode) (ops : Array Oper) (Q : Exit → Act → World → Prop) (S : World → Prop) : Nat → Array Bool → Act → World → Prop
  | 0, listed, a, w => Region.ready md ops listed = [] ∧ Q .normal a w
  | fuel + 1, listed, a, w =>
    (Region.ready md ops listed = [] → Q .normal a w) ∧
    ∀ i ∈ Region.ready md ops listed, wpOp P ops Q i (fun a' w' => (S w' ∨ sinkB md ops i = true) ∧ wpAnyX P md ops Q S fuel (listed.setIfInBounds i true) a' w') a w

theorem wpAny_of_X : ∀ (fuel : Nat) (listed : Array Bool) (a : Act) (w : World), wpAnyX P md ops Q S fuel listed a w → wpAny P md ops Q fuel listed a w
  | 0, _, _, _, h => h
  | fuel + 1, _, _, _, h => ⟨h.1, fun i hi => wpOp_mono (fun a' w' h' => wpAny_of_X fuel _ a' w' h'.2) (h.2 i hi)⟩

/-- Of the frame behind an operation nothing but its own slot has turned. -/
theorem Oper.wp_shape {o : Oper} {a : Act} {K : Act → World → Prop} (h : o.wp P a w K Q) : o.wp P a w (fun a' w' => K a' w' ∧ ∃ u ds, a' = ({ a with defers := ds } : Act).put o.dst u) Q := by
  unfold Oper.wp at *
  generalize (execOp a.eval o).run P w = r at *
  cases r with
  | ok n w' =>
    cases n <;> simp only [Oper.upon] at h ⊢
    case value u => exact ⟨h, u, a.defers, rfl⟩
    case skip => exact ⟨h, undef, a.defers, rfl⟩
    case defer d => exact ⟨h, undef, d :: a.defers, rfl⟩
    case enter f args =>
      refine Calls.mono h fun x w'' hx => ?_
      cases x with
      | returned u => exact ⟨hx, u, a.defers, rfl⟩
      | panicked c => exact hx
      | outgrown => exact hx
    case row row args => exact Rows.mono h fun u w'' hx => ⟨hx, u, a.defers, rfl⟩
  | halt x w' => cases x <;> simp only [Oper.upon] at h ⊢ <;> exact h

theorem wpOp_shape {i : Nat} {o : Oper} {a : Act} {K : Act → World → Prop} (hi : ops[i]? = some o) (h : wpOp P ops Q i K a w) :
    wpOp P ops Q i (fun a' w' => K a' w' ∧ ∃ u ds, a' = ({ a with defers := ds } : Act).put o.dst u) a w := by
  unfold wpOp at *
  simp only [hi] at *
  split
  · rename_i hw
    simp only [hw, if_true] at h
    rcases h with h | h
    · exact .inl (Oper.wp_shape h)
    · exact .inr h
  · rename_i hw
    simp only [hw] at h
    exact ⟨h, undef, a.defers, rfl⟩

/-- In state a, in every world that meets S, operation o leaves v in its slot and does nothing else; or its guard says no. -/
def Holds (P : Program) (ops : Array Oper) (S : World → Prop) (o : Oper) (v : Value) (a : Act) : Prop :=
  (Region.wanted o (yielded ops a.tmps) = true ∧ ∀ w, S w → (execOp a.eval o).run P w = .ok (.value v) w) ∨
  (Region.wanted o (yielded ops a.tmps) = false ∧ v = undef)

theorem Holds.wpOp {i : Nat} {o : Oper} {v : Value} {a : Act} (hi : ops[i]? = some o) (hy : Holds P ops S o v a) {K : Act → World → Prop} (hS : S w) (h : K (a.put o.dst v) w) : wpOp P ops Q i K a w := by
  unfold Go.wpOp
  simp only [hi]
  rcases hy with ⟨hw, hv⟩ | ⟨hw, rfl⟩
  · simp only [hw, if_true, Oper.wp, hv w hS, Oper.upon]; exact .inl h
  · simp only [hw, Bool.false_eq_true, if_false]; exact h

theorem Holds.put {oi oj : Oper} {v : Value} {a : Act} {ds : List Deferred} {u : Value} (hy : Holds P ops S oi v a) (hsi : ∀ cs b, oi.op ≠ .select cs b) (h : ∀ d, oj.dst = some d → d ∉ oi.looksAt ops) :
    Holds P ops S oi v (({ a with defers := ds } : Act).put oj.dst u) := by
  unfold Holds at *
  rw [execOp_put oi hsi { a with defers := ds } oj.dst u h, wanted_put oi { a with defers := ds } oj.dst u h]
  exact hy

theorem wpAnyX_first {i : Nat} {oi : Oper} {v : Value} (hi : ops[i]? = some oi) (hsel : ∀ (j : Nat) (o : Oper) cs b, ops[j]? = some o → o.op ≠ .select cs b) (hQ : ∀ c a w, ¬ Q (.panic c) a w) :
    ∀ (fuel : Nat) (listed : Array Bool) (a : Act) (w : World), Closed md ops listed →
      (∀ j oj, ops[j]? = some oj → j ≠ i → listed.getD j true = false → (∀ x ∈ oj.after, Region.binds md x = true → x.on ≠ i) → oi.apart ops oj = true) →
      i ∈ Region.ready md ops listed → Holds P ops S oi v a → S w →
      wpAnyX P md ops Q S fuel (listed.setIfInBounds i true) (a.put oi.dst v) w → wpAnyX P md ops Q S (fuel + 1) listed a w := by
  intro fuel
  induction fuel with
  | zero =>
    intro listed a w _ _ hr hy hS H
    refine ⟨fun h => (by rw [h] at hr; cases hr), fun j hj => ?_⟩
    by_cases hji : j = i
    · subst hji; exact hy.wpOp hi hS ⟨.inl hS, H⟩
    · have := ready_mono hj hji
      rw [H.1] at this
      cases this
  | succ fuel ih =>
    intro listed a w hcl hfree hr hy hS H
    refine ⟨fun h => (by rw [h] at hr; cases hr), fun j hj => ?_⟩
    by_cases hji : j = i
    · subst hji; exact hy.wpOp hi hS ⟨.inl hS, H⟩
    · obtain ⟨hjun, oj, hoj, hall⟩ := mem_ready.1 hj
      have hnot : ∀ x ∈ oj.after, Region.binds md x = true → x.on ≠ i := fun x hx hb heq => by
        have h1 := hall x hx hb
        have h0 := (mem_ready.1 hr).1
        rw [heq] at h1
        rcases Nat.lt_or_ge i listed.size with h' | h'
        · simp [h'] at h0 h1; rw [h0] at h1; cases h1
        · simp [Array.getElem?_eq_none h'] at h1
      have hap := hfree j oj hoj hji hjun hnot
      have hsink : sinkB md ops j = false := sinkB_no hcl hj (Array.getElem?_eq_some_iff.1 hi).1 (mem_ready.1 hr).1 hji
      -- a stand-in for oi: it writes the same slot and looks at nothing
      have hap' : ({ oi with op := .move (.const v), guard := none } : Oper).apart ops oj = true := by
        obtain ⟨h1, h2, h3⟩ := Oper.apart_spec hap
        unfold Oper.apart
        simp only [Bool.and_eq_true]
        refine ⟨?_, ?_⟩
        · cases hd : oi.dst with
          | none => rfl
          | some t => simp; exact ⟨h1 t hd, h2 t hd⟩
        · cases hd : oj.dst with
          | none => rfl
          | some t => simp [Oper.looksAt, Op.operands]
      have hyd : Yields P ops ({ oi with op := .move (.const v), guard := none } : Oper) v a := .inl ⟨rfl, fun w => rfl⟩
      have h1 := H.2 j (ready_mono hj hji)
      have h2 := wpOp_put (oi := { oi with op := .move (.const v), guard := none }) hoj hap' (fun cs b h => by cases h) (fun cs b => hsel j oj cs b hoj) (fun c a w h => absurd h (hQ c _ w)) hyd h1
      have h3 := wpOp_shape hoj h2
      have hfree' : ∀ k ok, ops[k]? = some ok → k ≠ i → (listed.setIfInBounds j true).getD k true = false →
          (∀ x ∈ ok.after, Region.binds md x = true → x.on ≠ i) → oi.apart ops ok = true := fun k ok hk hki hun hno => by
        refine hfree k ok hk hki ?_ hno
        by_cases hjk : j = k
        · subst hjk; exact hjun
        · rw [getD_set_ne true hjk] at hun; exact hun
      refine wpOp_mono (fun a' w' h4 => ?_) h3
      obtain ⟨⟨_, h5, h6⟩, u, ds, rfl⟩ := h4
      have hS' : S w' := by
        rcases h5 with h5 | h5
        · exact h5
        · rw [hsink] at h5; cases h5
      refine ⟨.inl hS', ih (listed.setIfInBounds j true) _ w' (hcl.set hj) hfree' (ready_mono hr (Ne.symm hji)) (hy.put (fun cs b => hsel i oi cs b hi) (Oper.apart_spec hap).2.2) hS' ?_⟩
      rw [Array.setIfInBounds_comm _ _ hji]
      exact h6

/-- The order that we choose: 0: taken first, yields in every world of S · 1: acts, and may alone come up; S stands behind it · 2: acts, and waits for all others. -/
def ordFrom (ops : Array Oper) (listed : Array Bool) : List (Nat × Nat) → Bool
  | [] => (Region.ready .any ops listed).isEmpty
  | (i, 0) :: r => (Region.ready .any ops listed).contains i && Region.free .any ops listed i && ordFrom ops (listed.setIfInBounds i true) r
  | (i, k) :: r => (Region.ready .any ops listed == [i]) && (k == 1 || sinkB .any ops i) && ordFrom ops (listed.setIfInBounds i true) r

structure AO (P : Program) (N : Nat) (full : List Oper) (S : World → Prop) (ord : List (Nat × Nat)) (e : Env) (w : World) (K : Env → World → Prop) : Prop where
  out : ∀ a, Knows N a e → ∀ listed, Closed .any full.toArray listed → ordFrom full.toArray listed ord = true → Region.noSelect full.toArray = true → wpAnyX P .any full.toArray (Kq N K) S ord.length listed a w

theorem CE_draw {id : Nat} (S : World → Prop) (ord : List (Nat × Nat)) (hm : P.follows .mixedOrders = true) (hlen : full.length = ord.length)
    (hord : (Region.noSelect full.toArray && ordFrom full.toArray (Array.replicate ord.length false) ord) = true)
    (h : AO P N full S ord e { w with drawn := w.drawn + 1 } p.norm) : CE P N (.region id full.toArray true) e w p := by
  refine ⟨fun a ha => ?_⟩
  rw [Bool.and_eq_true] at hord
  refine wp_mono (wp_region_any (Q := Kq N p.norm) hm (wpAny_of_X (S := S) _ _ _ _ ?_)) (Kq_mono fun _ _ h => h)
  have h1 := h.out a ha _ (Closed.start _) hord.2 hord.1
  simpa [hlen] using h1

variable {ord : List (Nat × Nat)}

theorem AO_nil (h : K e w) : AO P N full S [] e w K := by
  refine ⟨fun a ha listed _ ho _ => ?_⟩
  simp only [ordFrom] at ho
  exact ⟨by simpa using ho, e, ha, h⟩

theorem Kq_panic (c : List PanicEntry) (a : Act) (w : World) : ¬ Kq N K (.panic c) a w := fun h => h

def opAt : List Oper → Nat → Option Oper
  | [], _ => none
  | o :: _, 0 => some o
  | _ :: r, j + 1 => opAt r j

theorem opAt_eq (l : List Oper) : ∀ j, l.toArray[j]? = opAt l j := by
  induction l with
  | nil => intro j; simp [opAt]
  | cons o r ih =>
    intro j
    cases j with
    | zero => simp [opAt]
    | succ j => have := ih j; simpa [opAt] using this

theorem AO_take {i : Nat} {o : Oper} {v : Value} {e' : Env} (ho : opAt full i = some o) (hS : S w) (hy : ∀ a, Knows N a e → Holds P full.toArray S o v a ∧ Knows N (a.put o.dst v) e')
    (h2 : AO P N full S ord e' w K) : AO P N full S ((i, 0) :: ord) e w K := by
  refine ⟨fun a ha listed hcl hB hns => ?_⟩
  simp only [ordFrom, Bool.and_eq_true] at hB
  obtain ⟨⟨hr, hf⟩, hB'⟩ := hB
  have hi : full.toArray[i]? = some o := by rw [opAt_eq]; exact ho
  obtain ⟨hh, hk⟩ := hy a ha
  exact wpAnyX_first hi (Region.noSelect_spec hns) Kq_panic ord.length listed a w hcl (Region.free_spec hi hf) (by simpa using hr) hh hS (h2.out _ hk _ (hcl.set (by simpa using hr)) hB' hns)

theorem AO_p {i : Nat} {v : Value} (ho : opAt full i = some { dst := some d, op := op, type := ty, pos := pos, after := af, guard := none }) (hS : S w) (h : PuIf P N S op ty e v) (hd : Nat.blt d N = true)
    (h2 : AO P N full S ord ((d, v) :: e) w K) : AO P N full S ((i, 0) :: ord) e w K :=
  AO_take ho hS (fun a ha => ⟨.inl ⟨rfl, fun w hw => h.out a ha _ _ _ _ w hw⟩, ha.put d hd v⟩) h2

theorem AO_yes {i j t : Nat} {want : Bool} {v : Value} (ho : opAt full i = some { dst := some d, op := op, type := ty, pos := pos, after := af, guard := some (j, want) }) (hj : dstAt full j = some t)
    (ht : look e t = some (.bool want)) (hS : S w) (h : PuIf P N S op ty e v) (hd : Nat.blt d N = true)
    (h2 : AO P N full S ord ((d, v) :: e) w K) : AO P N full S ((i, 0) :: ord) e w K :=
  AO_take ho hS (fun a ha => ⟨.inl ⟨by simp [Region.wanted, ha.yielded hj ht], fun w hw => h.out a ha _ _ _ _ w hw⟩, ha.put d hd v⟩) h2

theorem AO_no {i j t : Nat} {want b : Bool} (ho : opAt full i = some { dst := some d, op := op, type := ty, pos := pos, after := af, guard := some (j, want) }) (hj : dstAt full j = some t)
    (ht : look e t = some (.bool b)) (hb : (b == want) = false) (hS : S w) (hd : Nat.blt d N = true)
    (h2 : AO P N full S ord ((d, undef) :: e) w K) : AO P N full S ((i, 0) :: ord) e w K :=
  AO_take (v := undef) ho hS (fun a ha => ⟨.inr ⟨by simp [Region.wanted, ha.yielded hj ht]; simpa using hb, rfl⟩, ha.put d hd undef⟩) h2

theorem AO_split (t : Nat) {b : Bool} (ht : look e t = some (.bool b)) (h1 : b = true → AO P N full S ord ((t, .bool true) :: e) w K) (h2 : b = false → AO P N full S ord ((t, .bool false) :: e) w K) : AO P N full S ord e w K := by
  have key : ∀ c, b = c → AO P N full S ord ((t, .bool c) :: e) w K → AO P N full S ord e w K := fun c hc h => ⟨fun a ha => h.out a ⟨ha.size, ha.defs, fun i v hi => by
    by_cases hti : t = i
    · subst hti
      rw [look_cons_eq] at hi
      simp only [Option.some.injEq] at hi
      subst hi; subst hc
      exact ha.val _ _ ht
    · rw [look_cons_ne hti] at hi; exact ha.val i v hi⟩⟩
  cases b with
  | true => exact key true rfl (h1 rfl)
  | false => exact key false rfl (h2 rfl)

theorem AO_gP {i j t : Nat} {k : Nat} {dst : Option Nat} {want : Bool} {q : Prop} {dq : Decidable q} (ho : opAt full i = some { dst := dst, op := op, type := ty, pos := pos, after := af, guard := some (j, want) }) (hj : dstAt full j = some t)
    (ht : look e t = some (.bool (@decide q dq))) (h1 : q → AO P N full S ((i, k) :: ord) ((t, .bool true) :: e) w K) (h2 : ¬ q → AO P N full S ((i, k) :: ord) ((t, .bool false) :: e) w K) : AO P N full S ((i, k) :: ord) e w K :=
  AO_split t ht (fun h => h1 (of_decide_eq_true h)) (fun h => h2 (of_decide_eq_false h))
theorem AO_gN {i j t : Nat} {k : Nat} {dst : Option Nat} {want : Bool} {q : Prop} {dq : Decidable q} (ho : opAt full i = some { dst := dst, op := op, type := ty, pos := pos, after := af, guard := some (j, want) }) (hj : dstAt full j = some t)
    (ht : look e t = some (.bool (!@decide q dq))) (h1 : ¬ q → AO P N full S ((i, k) :: ord) ((t, .bool true) :: e) w K) (h2 : q → AO P N full S ((i, k) :: ord) ((t, .bool false) :: e) w K) : AO P N full S ((i, k) :: ord) e w K :=
  AO_split t ht (fun h => h1 (of_decide_eq_false (by simpa using h))) (fun h => h2 (of_decide_eq_true (by simpa using h)))
theorem AO_gB {i j t : Nat} {k : Nat} {dst : Option Nat} {want b : Bool} (ho : opAt full i = some { dst := dst, op := op, type := ty, pos := pos, after := af, guard := some (j, want) }) (hj : dstAt full j = some t)
    (ht : look e t = some (.bool b)) (h1 : b = true → AO P N full S ((i, k) :: ord) ((t, .bool true) :: e) w K) (h2 : b = false → AO P N full S ((i, k) :: ord) ((t, .bool false) :: e) w K) : AO P N full S ((i, k) :: ord) e w K :=
  AO_split t ht h1 h2

/-- An operation that acts; the guard, if there is one, says yes. -/
def wantedE (full : List Oper) (e : Env) : Option (Nat × Bool) → Prop
  | none => True
  | some (j, want) => ∃ t, dstAt full j = some t ∧ look e t = some (.bool want)

theorem AO_act {i k : Nat} {o : Oper} {R : Value → World → Prop} {e' : Value → Env} (ho : opAt full i = some o) (hk : Nat.beq k 0 = false) (hg : wantedE full e o.guard) (h : Lo P N o.op o.type e w R)
    (he : ∀ a v, Knows N a e → Knows N (a.put o.dst v) (e' v)) (h2 : ∀ v w', R v w' → (S w' ∨ Nat.beq k 1 = false) ∧ AO P N full S ord (e' v) w' K) : AO P N full S ((i, k) :: ord) e w K := by
  refine ⟨fun a ha listed hcl hB hns => ?_⟩
  have hi : full.toArray[i]? = some o := by rw [opAt_eq]; exact ho
  have hB1 : (Region.ready .any full.toArray listed = [i]) ∧ (k = 1 ∨ sinkB .any full.toArray i = true) ∧ ordFrom full.toArray (listed.setIfInBounds i true) ord = true := by
    cases k with
    | zero => simp at hk
    | succ k => simpa [ordFrom, Bool.and_eq_true, and_assoc] using hB
  obtain ⟨hr, hs, hB'⟩ := hB1
  refine ⟨fun h0 => (by rw [h0] at hr; cases hr), fun j hj => ?_⟩
  rw [hr] at hj
  have hji : j = i := by simpa using hj
  subst hji
  unfold wpOp
  simp only [hi]
  have hw : Region.wanted o (yielded full.toArray a.tmps) = true := by
    unfold Region.wanted
    cases hgd : o.guard with
    | none => rfl
    | some jw =>
      obtain ⟨g, want⟩ := jw
      rw [hgd] at hg
      obtain ⟨t, h3, h4⟩ := hg
      simp [ha.yielded h3 h4]
  rw [if_pos hw]
  refine .inl (Lo.oper h ha fun v w' hR => ?_)
  obtain ⟨h5, h6⟩ := h2 v w' hR
  refine ⟨?_, h6.out _ (he a v ha) _ (hcl.set (by rw [hr]; simp)) hB' hns⟩
  rcases h5 with h5 | h5
  · exact .inl h5
  · rcases hs with hs | hs
    · subst hs; simp at h5
    · exact .inr hs

theorem AO_l {i : Nat} {R : Value → World → Prop} (ho : opAt full i = some { dst := some d, op := op, type := ty, pos := pos, after := af, guard := none }) (h : Lo P N op ty e w R) (hd : Nat.blt d N = true)
    (h2 : ∀ v w', R v w' → S w' ∧ AO P N full S ord ((d, v) :: e) w' K) : AO P N full S ((i, 1) :: ord) e w K :=
  AO_act (e' := fun v => (d, v) :: e) ho rfl trivial h (fun a v ha => ha.put d hd v) fun v w' hR => ⟨.inl (h2 v w' hR).1, (h2 v w' hR).2⟩

theorem AO_l0 {i : Nat} {R : Value → World → Prop} (ho : opAt full i = some { dst := none, op := op, type := ty, pos := pos, after := af, guard := none }) (h : Lo P N op ty e w R)
    (h2 : ∀ v w', R v w' → S w' ∧ AO P N full S ord e w' K) : AO P N full S ((i, 1) :: ord) e w K :=
  AO_act (e' := fun v => e) ho rfl trivial h (fun a v ha => ha) fun v w' hR => ⟨.inl (h2 v w' hR).1, (h2 v w' hR).2⟩

theorem AO_ly {i j t : Nat} {want : Bool} {R : Value → World → Prop} (ho : opAt full i = some { dst := some d, op := op, type := ty, pos := pos, after := af, guard := some (j, want) }) (hj : dstAt full j = some t)
    (ht : look e t = some (.bool want)) (h : Lo P N op ty e w R) (hd : Nat.blt d N = true)
    (h2 : ∀ v w', R v w' → S w' ∧ AO P N full S ord ((d, v) :: e) w' K) : AO P N full S ((i, 1) :: ord) e w K :=
  AO_act (e' := fun v => (d, v) :: e) ho rfl ⟨t, hj, ht⟩ h (fun a v ha => ha.put d hd v) fun v w' hR => ⟨.inl (h2 v w' hR).1, (h2 v w' hR).2⟩

theorem AO_L {i : Nat} (ho : opAt full i = some { dst := some d, op := op, type := ty, pos := pos, after := af, guard := none }) (hd : Nat.blt d N = true)
    (h : Lo P N op ty e w fun v w' => S w' ∧ AO P N full S ord ((d, v) :: e) w' K) : AO P N full S ((i, 1) :: ord) e w K := AO_l ho h hd fun _ _ h => h
theorem AO_L0 {i : Nat} (ho : opAt full i = some { dst := none, op := op, type := ty, pos := pos, after := af, guard := none })
    (h : Lo P N op ty e w fun v w' => S w' ∧ AO P N full S ord e w' K) : AO P N full S ((i, 1) :: ord) e w K := AO_l0 ho h fun _ _ h => h
theorem AO_Ly {i j t : Nat} {want : Bool} (ho : opAt full i = some { dst := some d, op := op, type := ty, pos := pos, after := af, guard := some (j, want) }) (hj : dstAt full j = some t)
    (ht : look e t = some (.bool want)) (hd : Nat.blt d N = true)
    (h : Lo P N op ty e w fun v w' => S w' ∧ AO P N full S ord ((d, v) :: e) w' K) : AO P N full S ((i, 1) :: ord) e w K := AO_ly ho hj ht h hd fun _ _ h => h

/-- A sink: it waits for all others; what it writes is read by none of them. -/
theorem AO_s0 {i : Nat} {R : Value → World → Prop} (ho : opAt full i = some { dst := none, op := op, type := ty, pos := pos, after := af, guard := none }) (h : Lo P N op ty e w R)
    (h2 : ∀ v w', R v w' → AO P N full S ord e w' K) : AO P N full S ((i, 2) :: ord) e w K :=
  AO_act (e' := fun v => e) ho rfl trivial h (fun a v ha => ha) fun v w' hR => ⟨.inr rfl, h2 v w' hR⟩
theorem AO_S {i : Nat} (ho : opAt full i = some { dst := some d, op := op, type := ty, pos := pos, after := af, guard := none }) (hd : Nat.blt d N = true)
    (h : Lo P N op ty e w fun v w' => AO P N full S ord ((d, v) :: e) w' K) : AO P N full S ((i, 2) :: ord) e w K :=
  AO_act (e' := fun v => (d, v) :: e) ho rfl trivial h (fun a v ha => ha.put d hd v) fun v w' hR => ⟨.inr rfl, hR⟩
theorem AO_S0 {i : Nat} (ho : opAt full i = some { dst := none, op := op, type := ty, pos := pos, after := af, guard := none })
    (h : Lo P N op ty e w fun v w' => AO P N full S ord e w' K) : AO P N full S ((i, 2) :: ord) e w K := AO_s0 ho h fun _ _ h => h

end
end Go.Proofs.Qxb6602549a
