/-
  The edges of out against the conflicts, in plain terms.
-/
import Derived.Test.Qxb6602549aNG
namespace Go.Proofs.Qxb6602549a
open Go Go.RowKit
set_option linter.unusedSimpArgs false
set_option linter.unusedVariables false

/-- operation q of a comes before operation p of b and the two conflict -/
structure Pair (h : HRec) (q p a b : Nat) : Prop where
  lq : lvB h q = true
  lp : lvB h p = true
  it : h.I q = h.I p
  tq : h.T q = a
  tp : h.T p = b
  ne : a ≠ b
  wr : h.A q = 119 ∨ h.A p = 119

/-- the conflicts found when the second operation is at most p, and at p the first is below k -/
def ConfK (h : HRec) (p k a b : Nat) : Prop := (∃ q p', q < p' ∧ p' < p ∧ Pair h q p' a b) ∨ ∃ q, q < k ∧ Pair h q p a b
def Conf (h : HRec) (a b : Nat) : Prop := ∃ q p, q < p ∧ p < h.n ∧ Pair h q p a b

theorem ConfK.zero (h : HRec) (a b : Nat) : ¬ ConfK h 0 0 a b := by
  rintro (⟨q, p, _, h2, _⟩ | ⟨q, h1, _⟩) <;> omega
theorem ConfK.next (h : HRec) (p a b : Nat) : ConfK h p p a b ↔ ConfK h (p + 1) 0 a b := by
  constructor
  · rintro (⟨q, p', h1, h2, h3⟩ | ⟨q, h1, h2⟩)
    · exact .inl ⟨q, p', h1, by omega, h3⟩
    · exact .inl ⟨q, p, h1, by omega, h2⟩
  · rintro (⟨q, p', h1, h2, h3⟩ | ⟨q, h1, _⟩)
    · by_cases h4 : p' = p
      · subst h4; exact .inr ⟨q, h1, h3⟩
      · exact .inl ⟨q, p', h1, by omega, h3⟩
    · omega
theorem ConfK.skip (h : HRec) (p a b : Nat) (hl : lvB h p = false) : ConfK h p 0 a b ↔ ConfK h (p + 1) 0 a b := by
  rw [← ConfK.next]
  constructor
  · rintro (h1 | ⟨q, h1, _⟩)
    · exact .inl h1
    · omega
  · rintro (h1 | ⟨q, h1, h2⟩)
    · exact .inl h1
    · have := h2.lp
      rw [hl] at this; cases this
theorem ConfK.step (h : HRec) (p k a b : Nat) : ConfK h p (k + 1) a b ↔ ConfK h p k a b ∨ Pair h k p a b := by
  constructor
  · rintro (h1 | ⟨q, h1, h2⟩)
    · exact .inl (.inl h1)
    · by_cases h3 : q = k
      · subst h3; exact .inr h2
      · exact .inl (.inr ⟨q, by omega, h2⟩)
  · rintro ((h1 | ⟨q, h1, h2⟩) | h1)
    · exact .inl h1
    · exact .inr ⟨q, by omega, h2⟩
    · exact .inr ⟨k, by omega, h1⟩
theorem ConfK.done (h : HRec) (a b : Nat) : ConfK h h.n 0 a b ↔ Conf h a b := by
  constructor
  · rintro (⟨q, p', h1, h2, h3⟩ | ⟨q, h1, _⟩)
    · exact ⟨q, p', h1, h2, h3⟩
    · omega
  · rintro ⟨q, p', h1, h2, h3⟩
    exact .inl ⟨q, p', h1, h2, h3⟩

theorem idx_inj {n a b a0 b0 : Nat} (hb : b < n) (hb0 : b0 < n) (h : a * n + b = a0 * n + b0) : a = a0 ∧ b = b0 := by
  rcases Nat.lt_trichotomy a a0 with h1 | h1 | h1
  · have h2 := Nat.mul_le_mul_right n (show a + 1 ≤ a0 by omega)
    rw [Nat.succ_mul] at h2
    omega
  · subst h1; exact ⟨rfl, by omega⟩
  · have h2 := Nat.mul_le_mul_right n (show a0 + 1 ≤ a by omega)
    rw [Nat.succ_mul] at h2
    omega
theorem idx_lt {n a b : Nat} (ha : a < n) (hb : b < n) : a * n + b < n * n := by
  have h2 := Nat.mul_le_mul_right n (show a + 1 ≤ n by omega)
  rw [Nat.succ_mul] at h2
  omega

section
variable {h : HRec}

theorem lvB_I {p : Nat} (hl : lvB h p = true) : 0 ≤ h.I p := by
  unfold lvB at hl
  simp at hl
  exact hl.1
theorem lvB_B {p : Nat} (hl : lvB h p = true) : h.B (h.T p) = false := by
  unfold lvB at hl
  simp at hl
  exact hl.2

/-- the last writer wrote -/
theorem wrtF_wit (x u : Nat) : ∀ p, wrtF h x p = (u : Nat) → ∃ q, q < p ∧ lvB h q = true ∧ h.I q = x ∧ h.A q = 119 ∧ h.T q = u
  | 0, hw => by
    simp only [wrtF] at hw
    omega
  | p + 1, hw => by
    rw [wrtF] at hw
    by_cases h1 : lvB h p = true ∧ h.I p = x ∧ h.A p = 119
    · rw [if_pos h1] at hw
      exact ⟨p, by omega, h1.1, h1.2.1, h1.2.2, by omega⟩
    · rw [if_neg h1] at hw
      obtain ⟨q, g1, g2⟩ := wrtF_wit x u p hw
      exact ⟨q, by omega, g2⟩
theorem rdsF_wit (x u : Nat) : ∀ p, u ∈ rdsF h x p → ∃ q, q < p ∧ lvB h q = true ∧ h.I q = x ∧ h.T q = u
  | 0, hw => by simp [rdsF] at hw
  | p + 1, hw => by
    rw [rdsF] at hw
    by_cases h1 : lvB h p = true ∧ h.I p = x
    · rw [if_pos h1] at hw
      by_cases h2 : h.A p = 119
      · rw [if_pos h2] at hw; simp at hw
      · rw [if_neg h2] at hw
        rcases List.mem_append.1 hw with h3 | h3
        · obtain ⟨q, g1, g2⟩ := rdsF_wit x u p h3
          exact ⟨q, by omega, g2⟩
        · exact ⟨p, by omega, h1.1, h1.2, (List.mem_singleton.1 h3).symm⟩
    · rw [if_neg h1] at hw
      obtain ⟨q, g1, g2⟩ := rdsF_wit x u p hw
      exact ⟨q, by omega, g2⟩

theorem mem_wedge {p u v : Nat} : v ∈ wedge h p u ↔ wrtF h (itm h p) p = u ∧ u ≠ h.T p ∧ v = h.T p := by
  unfold wedge
  by_cases h1 : wrtF h (itm h p) p = u ∧ u ≠ h.T p
  · rw [if_pos h1]; simp [h1]
  · rw [if_neg h1]
    constructor
    · intro hh; simp at hh
    · rintro ⟨a, b, _⟩; exact absurd ⟨a, b⟩ h1
theorem mem_redges {t u v : Nat} {rs : List Nat} : v ∈ redges t u rs ↔ u ∈ rs ∧ u ≠ t ∧ v = t := by
  unfold redges
  simp only [List.mem_map, List.mem_filter, decide_eq_true_eq]
  constructor
  · rintro ⟨r, ⟨h1, rfl, h3⟩, rfl⟩
    exact ⟨h1, h3, rfl⟩
  · rintro ⟨h1, h2, rfl⟩
    exact ⟨u, ⟨h1, rfl, h2⟩, rfl⟩

theorem outF_succ (u p : Nat) (hl : lvB h p = true) : outF h u (p + 1) = (outF h u p ++ wedge h p u) ++ (if h.A p = 119 then redges (h.T p) u (rdsF h (itm h p) p) else []) := by
  rw [outF, if_pos hl]
theorem outF_mono (u v : Nat) : ∀ d p, v ∈ outF h u p → v ∈ outF h u (p + d)
  | 0, p, hv => hv
  | d + 1, p, hv => by
    have ih := outF_mono u v d p hv
    show v ∈ outF h u (p + d + 1)
    rw [outF]
    split
    · exact List.mem_append.2 (.inl (List.mem_append.2 (.inl ih)))
    · exact ih
theorem outF_le {u v p : Nat} (hp : p ≤ h.n) (hv : v ∈ outF h u p) : v ∈ outF h u h.n := by
  have := outF_mono u v (h.n - p) p hv
  rwa [show p + (h.n - p) = h.n by omega] at this

/-- an edge of out is a conflict -/
theorem outF_conf {u v : Nat} : ∀ p, p ≤ h.n → v ∈ outF h u p → Conf h u v
  | 0, _, hv => by simp [outF] at hv
  | p + 1, hp, hv => by
    rw [outF] at hv
    by_cases hl : lvB h p = true
    · rw [if_pos hl] at hv
      have hI := lvB_I hl
      have hit : h.I p = (itm h p : Nat) := by unfold itm; omega
      rcases List.mem_append.1 hv with h1 | h1
      · rcases List.mem_append.1 h1 with h2 | h2
        · exact outF_conf p (by omega) h2
        · obtain ⟨g1, g2, rfl⟩ := mem_wedge.1 h2
          obtain ⟨q, k1, k2, k3, k4, k5⟩ := wrtF_wit (itm h p) u p g1
          exact ⟨q, p, k1, by omega, k2, hl, by rw [k3, hit], k5, rfl, g2, .inl k4⟩
      · by_cases hA : h.A p = 119
        · rw [if_pos hA] at h1
          obtain ⟨g1, g2, rfl⟩ := mem_redges.1 h1
          obtain ⟨q, k1, k2, k3, k4⟩ := rdsF_wit (itm h p) u p g1
          exact ⟨q, p, k1, by omega, k2, hl, by rw [k3, hit], k4, rfl, g2, .inr hA⟩
        · rw [if_neg hA] at h1; simp at h1
    · rw [if_neg hl] at hv
      exact outF_conf p (by omega) hv

/-- what a closed set knows of an item after p operations -/
theorem closed_inv {S : Nat → Prop} (hS : ∀ u v, S u → v ∈ outF h u h.n → S v) (x : Nat) : ∀ p, p ≤ h.n → ∀ q, q < p → lvB h q = true → h.I q = x → S (h.T q) →
    (∃ u : Nat, wrtF h x p = u ∧ S u) ∨ (h.A q ≠ 119 ∧ h.T q ∈ rdsF h x p)
  | 0, _, q, hq, _, _, _ => by omega
  | p + 1, hp, q, hq, hl, hx, hs => by
    by_cases h1 : lvB h p = true ∧ h.I p = x
    · have hitm : itm h p = x := itm_eq h1.2
      by_cases hA : h.A p = 119
      · -- a write: its transaction is in S
        refine .inl ⟨h.T p, by rw [wrtF, if_pos ⟨h1.1, h1.2, hA⟩], ?_⟩
        by_cases h2 : q = p
        · subst h2; exact hs
        · rcases closed_inv hS x p (by omega) q (by omega) hl hx hs with ⟨u, g1, g2⟩ | ⟨g1, g2⟩
          · by_cases h3 : u = h.T p
            · rw [← h3]; exact g2
            · refine hS u _ g2 (outF_le hp ?_)
              rw [outF_succ u p h1.1]
              exact List.mem_append.2 (.inl (List.mem_append.2 (.inr (mem_wedge.2 ⟨by rw [hitm]; exact g1, h3, rfl⟩))))
          · by_cases h3 : h.T q = h.T p
            · rw [← h3]; exact hs
            · refine hS (h.T q) _ hs (outF_le hp ?_)
              rw [outF_succ _ p h1.1, if_pos hA]
              exact List.mem_append.2 (.inr (mem_redges.2 ⟨by rw [hitm]; exact g2, h3, rfl⟩))
      · have e1 : wrtF h x (p + 1) = wrtF h x p := by rw [wrtF, if_neg (fun hh => hA hh.2.2)]
        have e2 : rdsF h x (p + 1) = rdsF h x p ++ [h.T p] := by rw [rdsF, if_pos h1, if_neg hA]
        rw [e1, e2]
        by_cases h2 : q = p
        · subst h2
          exact .inr ⟨hA, by simp⟩
        · rcases closed_inv hS x p (by omega) q (by omega) hl hx hs with g | ⟨g1, g2⟩
          · exact .inl g
          · exact .inr ⟨g1, List.mem_append.2 (.inl g2)⟩
    · have h2 : q ≠ p := fun hh => h1 ⟨by rw [← hh]; exact hl, by rw [← hh]; exact hx⟩
      have e1 : wrtF h x (p + 1) = wrtF h x p := by rw [wrtF, if_neg (fun hh => h1 ⟨hh.1, hh.2.1⟩)]
      have e2 : rdsF h x (p + 1) = rdsF h x p := by rw [rdsF, if_neg h1]
      rw [e1, e2]
      exact closed_inv hS x p (by omega) q (by omega) hl hx hs

theorem closed_conf {S : Nat → Prop} (hS : ∀ u v, S u → v ∈ outF h u h.n → S v) {a b : Nat} (ha : S a) (hc : Conf h a b) : S b := by
  obtain ⟨q, p, h1, h2, hp⟩ := hc
  obtain ⟨lq, lp, it, rfl, rfl, ne, wr⟩ := hp
  have hI := lvB_I lp
  obtain ⟨x, hx⟩ : ∃ x : Nat, h.I p = x := ⟨(h.I p).toNat, by omega⟩
  have hitm : itm h p = x := itm_eq hx
  rcases closed_inv hS x p (by omega) q h1 lq (by rw [it, hx]) ha with ⟨u, g1, g2⟩ | ⟨g1, g2⟩
  · by_cases h3 : u = h.T p
    · rw [← h3]; exact g2
    · refine hS u _ g2 (outF_le h2 ?_)
      rw [outF_succ u p lp]
      exact List.mem_append.2 (.inl (List.mem_append.2 (.inr (mem_wedge.2 ⟨by rw [hitm]; exact g1, h3, rfl⟩))))
  · have hA : h.A p = 119 := by
      rcases wr with h4 | h4
      · exact absurd h4 g1
      · exact h4
    refine hS (h.T q) _ ha (outF_le h2 ?_)
    rw [outF_succ _ p lp, if_pos hA]
    exact List.mem_append.2 (.inr (mem_redges.2 ⟨by rw [hitm]; exact g2, ne, rfl⟩))
end
end Go.Proofs.Qxb6602549a
