/-
  recovery: what its loop keeps, with no Go in sight.
-/
import Derived.Test.Qxb6602549aAdd
namespace Go.Proofs.Qxb6602549a
open Go Go.RowKit
set_option linter.unusedSimpArgs false
set_option linter.unusedVariables false

/-- at r a transaction touches an item that another, which has not ended, wrote before -/
def BadS (h : HRec) (E : Nat → Nat) (r : Nat) : Prop := ∃ q, q < r ∧ h.A q = 119 ∧ h.I q = h.I r ∧ h.T q ≠ h.T r ∧ r ≤ E (h.T q)
/-- at r a transaction writes an item that another, which has not ended, read before -/
def BadG (h : HRec) (E : Nat → Nat) (r : Nat) : Prop := ∃ q, q < r ∧ h.A q = 114 ∧ h.I q = h.I r ∧ h.T q ≠ h.T r ∧ r ≤ E (h.T q)

def Did (h : HRec) (a : Int) (p x : Nat) (u : Nat) : Prop := ∃ q, q < p ∧ h.A q = a ∧ h.I q = x ∧ h.T q = u

structure RG where
  p : Nat
  rc : Bool
  aca : Bool
  st : Bool
  rg : Bool
  R : Nat → Row
  W : Nat → LEnd
  D : Nat → LEnd

structure RInv (h : HRec) (E : Nat → Nat) (g : RG) : Prop where
  hp : g.p ≤ h.n
  rows : ∀ x, x < h.m → ∀ i, i < (g.R x).len → ∃ q, q < g.p ∧ h.A q = 119 ∧ h.I q = x ∧ (g.R x).c i = .int .i32 (h.T q)
  len : ∀ x, x < h.m → (g.R x).len ≤ g.p
  leW : ∀ x, x < h.m → LE (Did h 119 g.p x) E (g.W x)
  leD : ∀ x, x < h.m → LE (Did h 114 g.p x) E (g.D x)
  st : g.st = true ↔ ∀ r, r < g.p → ¬ BadS h E r
  aca : g.aca = false → ∃ r, r < g.p ∧ BadS h E r
  rc : g.rc = false → g.aca = false
  rg : g.rg = false → ∃ r, r < g.p ∧ BadG h E r

theorem did_succ_other {h : HRec} {a : Int} {p x u : Nat} (hne : ¬ (h.A p = a ∧ h.I p = x)) : Did h a (p + 1) x u ↔ Did h a p x u := by
  constructor
  · rintro ⟨q, h1, h2, h3, h4⟩
    by_cases hq : q = p
    · subst hq; exact absurd ⟨h2, h3⟩ hne
    · exact ⟨q, by omega, h2, h3, h4⟩
  · rintro ⟨q, h1, h2⟩
    exact ⟨q, by omega, h2⟩

theorem did_succ_same {h : HRec} {a : Int} {p x u : Nat} (h1 : h.A p = a) (h2 : h.I p = x) : Did h a (p + 1) x u ↔ Did h a p x u ∨ u = h.T p := by
  constructor
  · rintro ⟨q, g1, g2, g3, g4⟩
    by_cases hq : q = p
    · subst hq; exact .inr g4.symm
    · exact .inl ⟨q, by omega, g2, g3, g4⟩
  · rintro (⟨q, g1, g2⟩ | rfl)
    · exact ⟨q, by omega, g2⟩
    · exact ⟨p, by omega, h1, h2, rfl⟩

section
variable {h : HRec} {E : Nat → Nat} {g : RG}

theorem end_ne (ho : HOK h) (he : EPl h E) {q p : Nat} (hp : p < h.n) (hq : q < p) (hne : h.T q ≠ h.T p) : E (h.T q) ≠ p := fun hc => by
  have hT := (ho.ok q (by omega)).1
  have := (he.own (h.T q) hT (by omega)).1
  rw [hc] at this
  exact hne this.symm

/-- the test 'endAfter(t) > p' of a lastEnding over those who did a to x -/
theorem after_iff (ho : HOK h) (he : EPl h E) {a : Int} {p x : Nat} {l : LEnd} (hp : p < h.n) (hx : h.I p = x) (hl : LE (Did h a p x) E l) :
    (p : Int) < l.after (h.T p) ↔ ∃ q, q < p ∧ h.A q = a ∧ h.I q = h.I p ∧ h.T q ≠ h.T p ∧ p ≤ E (h.T q) := by
  constructor
  · intro hlt
    obtain ⟨u, ⟨q, g1, g2, g3, g4⟩, hne, hu⟩ := hl.upper (t := h.T p) (by omega)
    subst g4
    exact ⟨q, g1, g2, by rw [g3, hx], hne, by omega⟩
  · rintro ⟨q, g1, g2, g3, g4, g5⟩
    have h1 := hl.lower (u := h.T q) (t := h.T p) ⟨q, g1, g2, by rw [g3, hx], rfl⟩ g4
    have h2 := end_ne ho he hp g1 g4
    omega

theorem badS_succ {p : Nat} (P : Prop) (hP : P ↔ BadS h E p) : (∀ r, r < p + 1 → ¬ BadS h E r) ↔ (∀ r, r < p → ¬ BadS h E r) ∧ ¬ P := by
  rw [hP]
  constructor
  · intro hh; exact ⟨fun r hr => hh r (by omega), hh p (by omega)⟩
  · rintro ⟨h1, h2⟩ r hr
    by_cases hrp : r = p
    · subst hrp; exact h2
    · exact h1 r (by omega)

/-- a commit or an abort -/
theorem RInv.skip (ho : HOK h) (he : EPl h E) (hi : RInv h E g) (hp : g.p < h.n) (hneg : h.I g.p < 0) : RInv h E { g with p := g.p + 1 } := by
  have hok := (ho.ok g.p hp).2
  have hnb : ¬ BadS h E g.p := by
    rintro ⟨q, h1, h2, h3, h4, h5⟩
    have := (ho.ok q (by omega)).2
    omega
  refine ⟨by dsimp only; omega, fun x hx i hi' => ?_, fun x hx => ?_, fun x hx => ?_, fun x hx => ?_, ?_, fun ha => ?_, hi.rc, fun ha => ?_⟩
  · obtain ⟨q, h1, h2⟩ := hi.rows x hx i hi'
    exact ⟨q, by dsimp only; omega, h2⟩
  · have := hi.len x hx; dsimp only; omega
  · exact (hi.leW x hx).mono fun u => did_succ_other (by omega)
  · exact (hi.leD x hx).mono fun u => did_succ_other (by omega)
  · rw [hi.st, badS_succ (BadS h E g.p) Iff.rfl]
    exact ⟨fun h1 => ⟨h1, hnb⟩, fun h1 => h1.1⟩
  · obtain ⟨r, h1, h2⟩ := hi.aca ha; exact ⟨r, by dsimp only; omega, h2⟩
  · obtain ⟨r, h1, h2⟩ := hi.rg ha; exact ⟨r, by dsimp only; omega, h2⟩

/-- a read: the row of x may have been cut short -/
theorem RInv.read (ho : HOK h) (he : EPl h E) {x : Nat} {r' : Row} {l' : LEnd} {st' aca' rc' : Bool} (hi : RInv h E g) (hp : g.p < h.n) (hA : h.A g.p = 114) (hx : h.I g.p = x) (hxm : x < h.m)
    (hst : st' = true ↔ g.st = true ∧ ¬ BadS h E g.p) (hlen : r'.len ≤ (g.R x).len) (hc : ∀ i, i < r'.len → r'.c i = (g.R x).c i) (hl : l' = (g.D x).add (h.T g.p) (E (h.T g.p)))
    (haca : aca' = false → g.aca = false ∨ BadS h E g.p) (hrc : rc' = false → aca' = false) :
    RInv h E { g with p := g.p + 1, rc := rc', aca := aca', st := st', R := updR g.R x r', D := fun y => if y = x then l' else g.D y } := by
  have haft := (he.aft g.p hp).1
  have hT := (ho.ok g.p hp).1
  have hpos : 0 < E (h.T g.p) := by
    rcases Nat.eq_zero_or_pos (E (h.T g.p)) with h0 | h0
    · have h1 : g.p = 0 := by omega
      have h2 := (he.own _ hT (by omega)).2
      rw [h0, ← h1] at h2
      omega
    · exact h0
  refine ⟨by dsimp only; omega, fun y hy i hi' => ?_, fun y hy => ?_, fun y hy => ?_, fun y hy => ?_, ?_, fun ha => ?_, hrc, fun ha => ?_⟩
  · dsimp only at *
    by_cases hyx : y = x
    · subst hyx
      rw [updR_self] at hi' ⊢
      obtain ⟨q, h1, h2, h3, h4⟩ := hi.rows y hy i (by omega)
      exact ⟨q, by omega, h2, h3, by rw [hc i hi', h4]⟩
    · rw [updR_ne _ _ hyx] at hi' ⊢
      obtain ⟨q, h1, h2⟩ := hi.rows y hy i hi'
      exact ⟨q, by omega, h2⟩
  · dsimp only
    have := hi.len y hy
    by_cases hyx : y = x
    · subst hyx; rw [updR_self]; omega
    · rw [updR_ne _ _ hyx]; omega
  · exact (hi.leW y hy).mono fun u => did_succ_other (by omega)
  · dsimp only
    by_cases hyx : y = x
    · subst hyx
      rw [if_pos rfl, hl]
      exact (hi.leD y hy).add (h.T g.p) hpos fun u => did_succ_same hA hx
    · rw [if_neg hyx]
      exact (hi.leD y hy).mono fun u => did_succ_other (by rw [hx]; omega)
  · dsimp only
    rw [hst, hi.st, badS_succ (BadS h E g.p) Iff.rfl]
  · rcases haca ha with h1 | h1
    · obtain ⟨r, h2, h3⟩ := hi.aca h1; exact ⟨r, by dsimp only; omega, h3⟩
    · exact ⟨g.p, by dsimp only; omega, h1⟩
  · obtain ⟨r, h1, h2⟩ := hi.rg ha; exact ⟨r, by dsimp only; omega, h2⟩

/-- a write -/
theorem RInv.write (ho : HOK h) (he : EPl h E) {x : Nat} {r' : Row} {l' : LEnd} {st' rg' : Bool} (hi : RInv h E g) (hp : g.p < h.n) (hA : h.A g.p = 119) (hx : h.I g.p = x) (hxm : x < h.m)
    (hst : st' = true ↔ g.st = true ∧ ¬ BadS h E g.p) (hlen : r'.len = (g.R x).len + 1) (hc : ∀ i, i < (g.R x).len → r'.c i = (g.R x).c i) (hc1 : r'.c (g.R x).len = .int .i32 (h.T g.p)) (hl : l' = (g.W x).add (h.T g.p) (E (h.T g.p)))
    (hrg : rg' = false → g.rg = false ∨ BadG h E g.p) :
    RInv h E { g with p := g.p + 1, st := st', rg := rg', R := updR g.R x r', W := fun y => if y = x then l' else g.W y } := by
  have haft := (he.aft g.p hp).1
  have hT := (ho.ok g.p hp).1
  have hpos : 0 < E (h.T g.p) := by
    rcases Nat.eq_zero_or_pos (E (h.T g.p)) with h0 | h0
    · have h1 : g.p = 0 := by omega
      have h2 := (he.own _ hT (by omega)).2
      rw [h0, ← h1] at h2
      omega
    · exact h0
  refine ⟨by dsimp only; omega, fun y hy i hi' => ?_, fun y hy => ?_, fun y hy => ?_, fun y hy => ?_, ?_, fun ha => ?_, hi.rc, fun ha => ?_⟩
  · dsimp only at *
    by_cases hyx : y = x
    · subst hyx
      rw [updR_self] at hi' ⊢
      by_cases hil : i = (g.R y).len
      · subst hil
        exact ⟨g.p, by omega, hA, hx, hc1⟩
      · obtain ⟨q, h1, h2, h3, h4⟩ := hi.rows y hy i (by omega)
        exact ⟨q, by omega, h2, h3, by rw [hc i (by omega), h4]⟩
    · rw [updR_ne _ _ hyx] at hi' ⊢
      obtain ⟨q, h1, h2⟩ := hi.rows y hy i hi'
      exact ⟨q, by omega, h2⟩
  · dsimp only
    have := hi.len y hy
    by_cases hyx : y = x
    · subst hyx; rw [updR_self]; omega
    · rw [updR_ne _ _ hyx]; omega
  · dsimp only
    by_cases hyx : y = x
    · subst hyx
      rw [if_pos rfl, hl]
      exact (hi.leW y hy).add (h.T g.p) hpos fun u => did_succ_same hA hx
    · rw [if_neg hyx]
      exact (hi.leW y hy).mono fun u => did_succ_other (by rw [hx]; omega)
  · exact (hi.leD y hy).mono fun u => did_succ_other (by omega)
  · dsimp only
    rw [hst, hi.st, badS_succ (BadS h E g.p) Iff.rfl]
  · obtain ⟨r, h1, h2⟩ := hi.aca ha; exact ⟨r, by dsimp only; omega, h2⟩
  · rcases hrg ha with h1 | h1
    · obtain ⟨r, h2, h3⟩ := hi.rg h1; exact ⟨r, by dsimp only; omega, h3⟩
    · exact ⟨g.p, by dsimp only; omega, h1⟩

/-- a source that has neither committed nor aborted by p makes p bad -/
theorem bad_of_source (ho : HOK h) (he : EPl h E) {p x q : Nat} (hp : p < h.n) (hx : h.I p = x) (hq : q < p) (h1 : h.A q = 119) (h2 : h.I q = x) (hne : h.T q ≠ h.T p) (hna : ¬ EndsBy h E (h.T q) 97 p) (hnc : ¬ EndsBy h E (h.T q) 99 p) : BadS h E p := by
  refine ⟨q, hq, h1, by rw [h2, hx], hne, ?_⟩
  rcases Nat.lt_or_ge (E (h.T q)) p with h3 | h3
  · exfalso
    have h4 := (he.own (h.T q) (ho.ok q (by omega)).1 (by omega)).2
    rcases h4 with h4 | h4
    · exact hnc ⟨h3, h4⟩
    · exact hna ⟨h3, h4⟩
  · exact h3

/-- a source that has committed before the read has committed before the reader's end -/
theorem committed_before (he : EPl h E) {p q : Nat} (hp : p < h.n) (hc : EndsBy h E (h.T q) 99 p) : EndsBy h E (h.T q) 99 (E (h.T p)) := by
  have := (he.aft p hp).1
  exact ⟨by have := hc.1; omega, hc.2⟩
end

/-- what recovery's four answers say -/
structure RFacts (h : HRec) (E : Nat → Nat) (rc aca st rg : Bool) : Prop where
  frc : rc = false → aca = false
  faca : aca = false → ∃ r, r < h.n ∧ BadS h E r
  fst : st = true ↔ ∀ r, r < h.n → ¬ BadS h E r
  frg : rg = (st && rg) ∧ (rg = false → st = false ∨ ∃ r, r < h.n ∧ BadG h E r)

theorem RFacts.nested {h : HRec} {E : Nat → Nat} {rc aca st rg : Bool} (f : RFacts h E rc aca st rg) : ((!rg || st) && (!st || aca) && (!aca || rc)) = true := by
  have h1 : st = true → aca = true := fun hs => by
    cases ha : aca with
    | true => rfl
    | false => obtain ⟨r, g1, g2⟩ := f.faca ha; exact absurd g2 (f.fst.1 hs r g1)
  have h2 := f.frc
  have h3 := f.frg.1
  cases rg <;> cases st <;> cases aca <;> cases rc <;> simp_all

theorem RFacts.serial {h : HRec} {E : Nat → Nat} {rc aca st rg : Bool} (f : RFacts h E rc aca st rg) (hs : ∀ p q, p < h.n → q < p → h.T q ≠ h.T p → E (h.T q) < p) : (rc && aca && st && rg) = true := by
  have nb : ∀ r, r < h.n → ¬ BadS h E r := by
    rintro r hr ⟨q, h1, h2, h3, h4, h5⟩
    have := hs r q hr h1 h4; omega
  have ng : ∀ r, r < h.n → ¬ BadG h E r := by
    rintro r hr ⟨q, h1, h2, h3, h4, h5⟩
    have := hs r q hr h1 h4; omega
  have hst := f.fst.2 nb
  have haca : aca = true := by
    cases ha : aca with
    | true => rfl
    | false => obtain ⟨r, g1, g2⟩ := f.faca ha; exact absurd g2 (nb r g1)
  have hrc : rc = true := by
    cases hr : rc with
    | true => rfl
    | false => have := f.frc hr; rw [haca] at this; cases this
  have hrg : rg = true := by
    cases hr : rg with
    | true => rfl
    | false =>
      rcases f.frg.2 hr with h1 | ⟨r, g1, g2⟩
      · rw [hst] at h1; cases h1
      · exact absurd g2 (ng r g1)
  simp [hst, haca, hrc, hrg]
end Go.Proofs.Qxb6602549a
