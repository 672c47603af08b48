/-
  The touch ranges and the conflicts, in plain terms.
-/
import Derived.Test.Qxb6602549aTPlain
namespace Go.Proofs.Qxb6602549a
open Go Go.RowKit
set_option linter.unusedSimpArgs false
set_option linter.unusedVariables false

section
variable (P : Nat → Bool)
def fstP : Nat → Int
  | 0 => -1
  | p + 1 => if P p = true then (if fstP p < 0 then (p : Int) else fstP p) else fstP p
def lstP : Nat → Int
  | 0 => -1
  | p + 1 => if P p = true then (p : Int) else lstP p
/-- the transactions of the operations that P picks -/
def filT (T : Nat → Nat) : Nat → List Nat
  | 0 => []
  | p + 1 => if P p = true then filT T p ++ [T p] else filT T p
end

theorem fstP_spec (P : Nat → Bool) : ∀ n, (fstP P n = -1 ∧ ∀ q, q < n → ¬ P q = true) ∨ ∃ f : Nat, f < n ∧ fstP P n = (f : Int) ∧ P f = true ∧ ∀ q, q < f → ¬ P q = true
  | 0 => .inl ⟨rfl, fun q hq => by omega⟩
  | p + 1 => by
    rw [fstP]
    rcases fstP_spec P p with ⟨h1, h2⟩ | ⟨f, h1, h2, h3, h4⟩
    · by_cases hp : P p = true
      · rw [if_pos hp, if_pos (by omega)]
        exact .inr ⟨p, by omega, rfl, hp, h2⟩
      · rw [if_neg hp]
        refine .inl ⟨h1, fun q hq => ?_⟩
        by_cases hqp : q = p
        · rw [hqp]; exact hp
        · exact h2 q (by omega)
    · by_cases hp : P p = true
      · rw [if_pos hp, if_neg (by omega)]
        exact .inr ⟨f, by omega, h2, h3, h4⟩
      · rw [if_neg hp]
        exact .inr ⟨f, by omega, h2, h3, h4⟩
theorem lstP_spec (P : Nat → Bool) : ∀ n, (lstP P n = -1 ∧ ∀ q, q < n → ¬ P q = true) ∨ ∃ f : Nat, f < n ∧ lstP P n = (f : Int) ∧ P f = true ∧ ∀ q, f < q → q < n → ¬ P q = true
  | 0 => .inl ⟨rfl, fun q hq => by omega⟩
  | p + 1 => by
    rw [lstP]
    by_cases hp : P p = true
    · rw [if_pos hp]
      exact .inr ⟨p, by omega, rfl, hp, fun q h1 h2 => by omega⟩
    · rw [if_neg hp]
      rcases lstP_spec P p with ⟨h1, h2⟩ | ⟨f, h1, h2, h3, h4⟩
      · refine .inl ⟨h1, fun q hq => ?_⟩
        by_cases hqp : q = p
        · rw [hqp]; exact hp
        · exact h2 q (by omega)
      · refine .inr ⟨f, by omega, h2, h3, fun q hq1 hq2 => ?_⟩
        by_cases hqp : q = p
        · rw [hqp]; exact hp
        · exact h4 q hq1 (by omega)

/-! ### Places in a picked list -/
section
variable {P : Nat → Bool} {T : Nat → Nat}
theorem filT_step (p : Nat) : (filT P T (p + 1)).length = if P p = true then (filT P T p).length + 1 else (filT P T p).length := by
  rw [filT]; split <;> simp
theorem filT_mono {q : Nat} : ∀ r, q ≤ r → (filT P T q).length ≤ (filT P T r).length
  | 0, h => by have : q = 0 := by omega
               subst this; exact Nat.le_refl _
  | r + 1, h => by
    by_cases h1 : q = r + 1
    · subst h1; exact Nat.le_refl _
    · have := filT_mono r (by omega : q ≤ r)
      rw [filT_step]; split <;> omega
theorem filT_lt {q r : Nat} (h : q < r) (hq : P q = true) : (filT P T q).length < (filT P T r).length := by
  have h1 := filT_mono (P := P) (T := T) r (show q + 1 ≤ r by omega)
  rw [filT_step, if_pos hq] at h1; omega
theorem filT_at {q : Nat} (hq : P q = true) : ∀ n, q < n → (filT P T n).getD (filT P T q).length 0 = T q
  | 0, h => by omega
  | n + 1, h => by
    by_cases h1 : q = n
    · subst h1
      rw [filT, if_pos hq]; simp
    · have ih := filT_at hq n (by omega)
      have hl := filT_lt (T := T) (show q < n by omega) hq
      rw [filT]
      split
      · rw [← ih]; simp [List.getElem?_append_left hl]
      · exact ih
theorem filT_idx {k : Nat} : ∀ n, k < (filT P T n).length → ∃ q, q < n ∧ P q = true ∧ (filT P T q).length = k ∧ (filT P T n).getD k 0 = T q
  | 0, h => by simp [filT] at h
  | n + 1, h => by
    by_cases hn : P n = true
    · by_cases hk : k < (filT P T n).length
      · obtain ⟨q, h1, h2, h3, h4⟩ := filT_idx n hk
        refine ⟨q, by omega, h2, h3, ?_⟩
        rw [← h4, filT, if_pos hn]; simp [List.getElem?_append_left hk]
      · rw [filT_step, if_pos hn] at h
        have h1 : (filT P T n).length = k := by omega
        refine ⟨n, by omega, hn, h1, ?_⟩
        rw [← h1]; exact filT_at hn (n + 1) (by omega)
    · rw [filT, if_neg hn] at h ⊢
      obtain ⟨q, h1, h2, h3, h4⟩ := filT_idx n h
      exact ⟨q, by omega, h2, h3, h4⟩
end

section
variable (h : HRec) (x t : Nat)
def acB (q : Nat) : Bool := lvB h q && decide (h.I q = (x : Int))
def awB (q : Nat) : Bool := lvB h q && (decide (h.I q = (x : Int)) && decide (h.A q = 119))
def taB (q : Nat) : Bool := acB h x q && decide (h.T q = t)
def twB (q : Nat) : Bool := awB h x q && decide (h.T q = t)
def trB (q : Nat) : Bool := acB h x q && (decide (h.T q = t) && decide (h.A q ≠ 119))
end
section
variable {h : HRec} {x t u q : Nat}
theorem acB_iff : acB h x q = true ↔ lvB h q = true ∧ h.I q = (x : Int) := by simp [acB]
theorem awB_iff : awB h x q = true ↔ lvB h q = true ∧ h.I q = (x : Int) ∧ h.A q = 119 := by simp [awB]
theorem taB_iff : taB h x t q = true ↔ (lvB h q = true ∧ h.I q = (x : Int)) ∧ h.T q = t := by simp [taB, acB]
theorem twB_iff : twB h x t q = true ↔ (lvB h q = true ∧ h.I q = (x : Int) ∧ h.A q = 119) ∧ h.T q = t := by simp [twB, awB]
theorem trB_iff : trB h x t q = true ↔ (lvB h q = true ∧ h.I q = (x : Int)) ∧ h.T q = t ∧ h.A q ≠ 119 := by simp [trB, acB]
theorem accF_fil (h : HRec) (x : Nat) : ∀ p, accF h x p = filT (acB h x) h.T p
  | 0 => rfl
  | p + 1 => by
    rw [accF, filT, accF_fil h x p]
    by_cases h1 : lvB h p = true ∧ h.I p = x
    · rw [if_pos h1, if_pos (acB_iff.2 h1)]
    · rw [if_neg h1, if_neg (fun hh => h1 (acB_iff.1 hh))]
theorem wrsF_fil (h : HRec) (x : Nat) : ∀ p, wrsF h x p = filT (awB h x) h.T p
  | 0 => rfl
  | p + 1 => by
    rw [wrsF, filT, wrsF_fil h x p]
    by_cases h1 : lvB h p = true ∧ h.I p = x ∧ h.A p = 119
    · rw [if_pos h1, if_pos (awB_iff.2 h1)]
    · rw [if_neg h1, if_neg (fun hh => h1 (awB_iff.1 hh))]
end

/-- t's operation comes ahead of a conflicting one of u -/
def Cf (h : HRec) (x t u : Nat) : Prop := ∃ q r, q < r ∧ r < h.n ∧ taB h x t q = true ∧ taB h x u r = true ∧ (h.A q = 119 ∨ h.A r = 119)

section
variable {h : HRec} {x t u : Nat}
theorem ta_tw {q : Nat} (h1 : twB h x t q = true) : taB h x t q = true := by rw [twB_iff] at h1; rw [taB_iff]; exact ⟨⟨h1.1.1, h1.1.2.1⟩, h1.2⟩
theorem tw_ta {q : Nat} (h1 : taB h x t q = true) (h2 : h.A q = 119) : twB h x t q = true := by rw [taB_iff] at h1; rw [twB_iff]; exact ⟨⟨h1.1.1, h1.1.2, h2⟩, h1.2⟩
theorem tw_w {q : Nat} (h1 : twB h x t q = true) : h.A q = 119 := by rw [twB_iff] at h1; exact h1.1.2.2
theorem tr_ta {q : Nat} (h1 : taB h x t q = true) (h2 : h.A q ≠ 119) : trB h x t q = true := by rw [taB_iff] at h1; rw [trB_iff]; exact ⟨h1.1, h1.2, h2⟩
theorem ta_tr {q : Nat} (h1 : trB h x t q = true) : taB h x t q = true := by rw [trB_iff] at h1; rw [taB_iff]; exact ⟨h1.1, h1.2.1⟩
theorem tr_r {q : Nat} (h1 : trB h x t q = true) : h.A q ≠ 119 := by rw [trB_iff] at h1; exact h1.2.2
theorem ac_ta {q : Nat} (h1 : taB h x t q = true) : acB h x q = true := by rw [taB_iff] at h1; rw [acB_iff]; exact h1.1
theorem aw_tw {q : Nat} (h1 : twB h x t q = true) : awB h x q = true := by rw [twB_iff] at h1; rw [awB_iff]; exact h1.1
theorem T_ta {q : Nat} (h1 : taB h x t q = true) : h.T q = t := by rw [taB_iff] at h1; exact h1.2
theorem ta_ac {q : Nat} (h1 : acB h x q = true) (h2 : h.T q = t) : taB h x t q = true := by rw [acB_iff] at h1; rw [taB_iff]; exact ⟨h1, h2⟩
theorem tw_aw {q : Nat} (h1 : awB h x q = true) (h2 : h.T q = t) : twB h x t q = true := by rw [awB_iff] at h1; rw [twB_iff]; exact ⟨h1, h2⟩

/-- there are q of P ahead of r of Q: by the first of P and the last of Q -/
theorem fl_iff {P Q : Nat → Bool} {n : Nat} : (0 ≤ fstP P n ∧ fstP P n < lstP Q n) ↔ ∃ q r, q < r ∧ r < n ∧ P q = true ∧ Q r = true := by
  constructor
  · rintro ⟨h1, h2⟩
    rcases fstP_spec P n with ⟨g1, g2⟩ | ⟨f, g1, g2, g3, g4⟩
    · omega
    · rcases lstP_spec Q n with ⟨k1, k2⟩ | ⟨l, k1, k2, k3, k4⟩
      · omega
      · exact ⟨f, l, by omega, k1, g3, k3⟩
  · rintro ⟨q, r, h1, h2, h3, h4⟩
    rcases fstP_spec P n with ⟨g1, g2⟩ | ⟨f, g1, g2, g3, g4⟩
    · exact absurd h3 (g2 q (by omega))
    · rcases lstP_spec Q n with ⟨k1, k2⟩ | ⟨l, k1, k2, k3, k4⟩
      · exact absurd h4 (k2 r h2)
      · have a1 : f ≤ q := by
          rcases Nat.lt_or_ge q f with h | h
          · exact absurd h3 (g4 q h)
          · exact h
        have a2 : r ≤ l := by
          rcases Nat.lt_or_ge l r with h | h
          · exact absurd h4 (k4 r h h2)
          · exact h
        omega

/-- what agrees computes of the marks -/
theorem tu_iff (h0 : 0 ≤ fstP (taB h x t) h.n) : ((0 ≤ fstP (twB h x t) h.n ∧ fstP (twB h x t) h.n < lstP (taB h x u) h.n) ∨ fstP (taB h x t) h.n < lstP (twB h x u) h.n) ↔ Cf h x t u := by
  have e : fstP (taB h x t) h.n < lstP (twB h x u) h.n ↔ (0 ≤ fstP (taB h x t) h.n ∧ fstP (taB h x t) h.n < lstP (twB h x u) h.n) := ⟨fun hh => ⟨h0, hh⟩, fun hh => hh.2⟩
  rw [e, fl_iff, fl_iff]
  constructor
  · rintro (⟨q, r, h1, h2, h3, h4⟩ | ⟨q, r, h1, h2, h3, h4⟩)
    · exact ⟨q, r, h1, h2, ta_tw h3, h4, .inl (tw_w h3)⟩
    · exact ⟨q, r, h1, h2, h3, ta_tw h4, .inr (tw_w h4)⟩
  · rintro ⟨q, r, h1, h2, h3, h4, h5 | h5⟩
    · exact .inl ⟨q, r, h1, h2, tw_ta h3 h5, h4⟩
    · exact .inr ⟨q, r, h1, h2, h3, tw_ta h4 h5⟩
theorem ut_iff : ((0 ≤ fstP (twB h x u) h.n ∧ fstP (twB h x u) h.n < lstP (taB h x t) h.n) ∨ (0 ≤ fstP (taB h x u) h.n ∧ fstP (taB h x u) h.n < lstP (twB h x t) h.n)) ↔ Cf h x u t := by
  rw [fl_iff, fl_iff]
  constructor
  · rintro (⟨q, r, h1, h2, h3, h4⟩ | ⟨q, r, h1, h2, h3, h4⟩)
    · exact ⟨q, r, h1, h2, ta_tw h3, h4, .inl (tw_w h3)⟩
    · exact ⟨q, r, h1, h2, h3, ta_tw h4, .inr (tw_w h4)⟩
  · rintro ⟨q, r, h1, h2, h3, h4, h5 | h5⟩
    · exact .inl ⟨q, r, h1, h2, tw_ta h3 h5, h4⟩
    · exact .inr ⟨q, r, h1, h2, h3, tw_ta h4 h5⟩

/-- a touch's fields, by first and last -/
structure FI (h : HRec) (x t p : Nat) (c : Tch) : Prop where
  sa : c.sa = if fstP (twB h x t) p < 0 then -1 else ((accF h x (fstP (twB h x t) p).toNat).length : Int) + 1
  sw : c.sw = if fstP (trB h x t) p < 0 then -1 else ((wrsF h x (fstP (trB h x t) p).toNat).length : Int)
  pa : c.pa = if lstP (twB h x t) p < 0 then 0 else ((accF h x (lstP (twB h x t) p).toNat).length : Int)
  pw : c.pw = if lstP (trB h x t) p < 0 then 0 else ((wrsF h x (lstP (trB h x t) p).toNat).length : Int)

theorem rdT_sa (nw : Nat) (w : Int) (t : Nat) (c : Tch) : (rdT nw w t c).sa = c.sa ∧ (rdT nw w t c).pa = c.pa ∧ (rdT nw w t c).pw = nw ∧ (rdT nw w t c).sw = if c.sw < 0 then (nw : Int) else c.sw := by
  have h1 : (rdT1 c).sa = c.sa ∧ (rdT1 c).pa = c.pa ∧ (rdT1 c).sw = c.sw := by unfold rdT1; split <;> exact ⟨rfl, rfl, rfl⟩
  have h2 : (rdT2 nw (rdT1 c)).sa = c.sa ∧ (rdT2 nw (rdT1 c)).pa = c.pa ∧ (rdT2 nw (rdT1 c)).sw = if c.sw < 0 then (nw : Int) else c.sw := by
    unfold rdT2
    rw [h1.2.2]
    split
    · exact ⟨h1.1, h1.2.1, rfl⟩
    · exact ⟨h1.1, h1.2.1, h1.2.2⟩
  unfold rdT addSrc
  dsimp only
  split
  · exact ⟨h2.1, h2.2.1, rfl, h2.2.2⟩
  · exact ⟨h2.1, h2.2.1, rfl, h2.2.2⟩
theorem wrT_sa (na : Nat) (c : Tch) : (wrT na c).sw = c.sw ∧ (wrT na c).pw = c.pw ∧ (wrT na c).pa = na ∧ (wrT na c).sa = if c.sa < 0 then (na : Int) + 1 else c.sa := by
  unfold wrT wrT1
  split <;> exact ⟨rfl, rfl, rfl, rfl⟩

theorem fst_no {P : Nat → Bool} {p : Nat} (hp : ¬ P p = true) : fstP P (p + 1) = fstP P p := by rw [fstP, if_neg hp]
theorem lst_no {P : Nat → Bool} {p : Nat} (hp : ¬ P p = true) : lstP P (p + 1) = lstP P p := by rw [lstP, if_neg hp]

theorem FI.all (h : HRec) (x t : Nat) : ∀ p, FI h x t p ((oneT h t x p).getD (newT x))
  | 0 => ⟨rfl, rfl, rfl, rfl⟩
  | p + 1 => by
    have ih := FI.all h x t p
    rw [oneT]
    by_cases h1 : lvB h p = true ∧ h.T p = t ∧ itm h p = x
    · rw [if_pos h1]
      have h0 : 0 ≤ h.I p := by have := h1.1; simp [lvB] at this; exact this.1
      have hx : h.I p = (x : Int) := by have := h1.2.2; unfold itm at this; omega
      have hta : taB h x t p = true := taB_iff.2 ⟨⟨h1.1, hx⟩, h1.2.1⟩
      show FI h x t (p + 1) (opT h p ((oneT h t x p).getD (newT x)))
      generalize (oneT h t x p).getD (newT x) = c at ih
      unfold opT
      rw [h1.2.2]
      by_cases h2 : h.A p = 119
      · rw [if_pos h2]
        have htw := tw_ta hta h2
        have htr : ¬ trB h x t p = true := fun hh => tr_r hh h2
        obtain ⟨s1, s2, s3, s4⟩ := wrT_sa (accF h x p).length c
        refine ⟨?_, ?_, ?_, ?_⟩
        · rw [s4, ih.sa, fstP, if_pos htw]
          by_cases h3 : fstP (twB h x t) p < 0
          · rw [if_pos h3, if_pos h3, if_pos (by decide), if_neg (by omega)]; simp
          · rw [if_neg h3, if_neg h3, if_neg (by omega), if_neg h3]
        · rw [s1, ih.sw, fst_no htr]
        · rw [s3, lstP, if_pos htw, if_neg (by omega)]; simp
        · rw [s2, ih.pw, lst_no htr]
      · rw [if_neg h2]
        have htr := tr_ta hta h2
        have htw : ¬ twB h x t p = true := fun hh => h2 (tw_w hh)
        obtain ⟨s1, s2, s3, s4⟩ := rdT_sa (wrsF h x p).length (wrtF h x p) (h.T p) c
        refine ⟨?_, ?_, ?_, ?_⟩
        · rw [s1, ih.sa, fst_no htw]
        · rw [s4, ih.sw, fstP, if_pos htr]
          by_cases h3 : fstP (trB h x t) p < 0
          · rw [if_pos h3, if_pos h3, if_pos (by decide), if_neg (by omega)]; simp
          · rw [if_neg h3, if_neg h3, if_neg (by omega), if_neg h3]
        · rw [s2, ih.pa, lst_no htw]
        · rw [s3, lstP, if_pos htr, if_neg (by omega)]; simp
    · rw [if_neg h1]
      have h2 : ¬ taB h x t p = true := fun hh => by
        rw [taB_iff] at hh
        exact h1 ⟨hh.1.1, hh.2, by unfold itm; omega⟩
      have htw : ¬ twB h x t p = true := fun hh => h2 (ta_tw hh)
      have htr : ¬ trB h x t p = true := fun hh => h2 (ta_tr hh)
      exact ⟨by rw [ih.sa, fst_no htw], by rw [ih.sw, fst_no htr], by rw [ih.pa, lst_no htw], by rw [ih.pw, lst_no htr]⟩

/-- the ends of the four ranges, as natural numbers -/
structure Rg7 (h : HRec) (x t : Nat) (c : Tch) (sa sw pa pw : Nat) : Prop where
  esa : c.sa = sa
  esw : c.sw = sw
  epa : c.pa = pa
  epw : c.pw = pw
  lsa : sa ≤ (accF h x h.n).length
  lsw : sw ≤ (wrsF h x h.n).length
  lpa : pa ≤ (accF h x h.n).length
  lpw : pw ≤ (wrsF h x h.n).length
  su : ∀ u, ((∃ k, sa ≤ k ∧ k < (accF h x h.n).length ∧ (accF h x h.n).getD k 0 = u) ∨ (∃ k, sw ≤ k ∧ k < (wrsF h x h.n).length ∧ (wrsF h x h.n).getD k 0 = u)) ↔ Cf h x t u
  pr : ∀ u, ((∃ k, k < pa ∧ (accF h x h.n).getD k 0 = u) ∨ (∃ k, k < pw ∧ (wrsF h x h.n).getD k 0 = u)) ↔ Cf h x u t

theorem sa_iff {n sa : Nat} (hs : (sa : Int) = if fstP (twB h x t) n < 0 then ((accF h x n).length : Int) else ((accF h x (fstP (twB h x t) n).toNat).length : Int) + 1) :
    sa ≤ (accF h x n).length ∧ ∀ u, (∃ k, sa ≤ k ∧ k < (accF h x n).length ∧ (accF h x n).getD k 0 = u) ↔ ∃ q r, q < r ∧ r < n ∧ twB h x t q = true ∧ taB h x u r = true := by
  simp only [accF_fil] at *
  rcases fstP_spec (twB h x t) n with ⟨g1, g2⟩ | ⟨f, g1, g2, g3, g4⟩
  · rw [if_pos (by omega)] at hs
    refine ⟨by omega, fun u => ⟨?_, ?_⟩⟩
    · rintro ⟨k, h1, h2, _⟩; omega
    · rintro ⟨q, r, h1, h2, h3, h4⟩; exact absurd h3 (g2 q (by omega))
  · rw [if_neg (by omega), g2] at hs
    have hs' : sa = (filT (acB h x) h.T f).length + 1 := by simp at hs; omega
    have hacf := ac_ta (ta_tw g3)
    refine ⟨by have := filT_lt (T := h.T) g1 hacf; omega, fun u => ⟨?_, ?_⟩⟩
    · rintro ⟨k, h1, h2, h3⟩
      obtain ⟨r, k1, k2, k3, k4⟩ := filT_idx n h2
      refine ⟨f, r, ?_, k1, g3, ta_ac k2 (by rw [← k4, h3])⟩
      rcases Nat.lt_or_ge f r with hh | hh
      · exact hh
      · have := filT_mono (P := acB h x) (T := h.T) f hh; omega
    · rintro ⟨q, r, h1, h2, h3, h4⟩
      have hfq : f ≤ q := by
        rcases Nat.lt_or_ge q f with hh | hh
        · exact absurd h3 (g4 q hh)
        · exact hh
      refine ⟨(filT (acB h x) h.T r).length, ?_, filT_lt h2 (ac_ta h4), ?_⟩
      · have := filT_lt (T := h.T) (show f < r by omega) hacf; omega
      · rw [filT_at (ac_ta h4) n h2]; exact T_ta h4
theorem sw_iff {n sw : Nat} (hs : (sw : Int) = if fstP (trB h x t) n < 0 then ((wrsF h x n).length : Int) else ((wrsF h x (fstP (trB h x t) n).toNat).length : Int)) :
    sw ≤ (wrsF h x n).length ∧ ∀ u, (∃ k, sw ≤ k ∧ k < (wrsF h x n).length ∧ (wrsF h x n).getD k 0 = u) ↔ ∃ q r, q < r ∧ r < n ∧ trB h x t q = true ∧ twB h x u r = true := by
  simp only [wrsF_fil] at *
  rcases fstP_spec (trB h x t) n with ⟨g1, g2⟩ | ⟨f, g1, g2, g3, g4⟩
  · rw [if_pos (by omega)] at hs
    refine ⟨by omega, fun u => ⟨?_, ?_⟩⟩
    · rintro ⟨k, h1, h2, _⟩; omega
    · rintro ⟨q, r, h1, h2, h3, h4⟩; exact absurd h3 (g2 q (by omega))
  · rw [if_neg (by omega), g2] at hs
    have hs' : sw = (filT (awB h x) h.T f).length := by simp at hs; omega
    refine ⟨by have := filT_mono (P := awB h x) (T := h.T) n (show f ≤ n by omega); omega, fun u => ⟨?_, ?_⟩⟩
    · rintro ⟨k, h1, h2, h3⟩
      obtain ⟨r, k1, k2, k3, k4⟩ := filT_idx n h2
      refine ⟨f, r, ?_, k1, g3, tw_aw k2 (by rw [← k4, h3])⟩
      rcases Nat.lt_or_ge f r with hh | hh
      · exact hh
      · by_cases he : r = f
        · subst he
          exact absurd ((awB_iff.1 k2).2.2) (tr_r g3)
        · have := filT_lt (T := h.T) (show r < f by omega) k2; omega
    · rintro ⟨q, r, h1, h2, h3, h4⟩
      have hfq : f ≤ q := by
        rcases Nat.lt_or_ge q f with hh | hh
        · exact absurd h3 (g4 q hh)
        · exact hh
      refine ⟨(filT (awB h x) h.T r).length, ?_, filT_lt h2 (aw_tw h4), ?_⟩
      · have := filT_mono (P := awB h x) (T := h.T) r (show f ≤ r by omega); omega
      · rw [filT_at (aw_tw h4) n h2]; exact T_ta (ta_tw h4)
theorem pa_iff {n pa : Nat} (hs : (pa : Int) = if lstP (twB h x t) n < 0 then 0 else ((accF h x (lstP (twB h x t) n).toNat).length : Int)) :
    pa ≤ (accF h x n).length ∧ ∀ u, (∃ k, k < pa ∧ (accF h x n).getD k 0 = u) ↔ ∃ q r, q < r ∧ r < n ∧ taB h x u q = true ∧ twB h x t r = true := by
  simp only [accF_fil] at *
  rcases lstP_spec (twB h x t) n with ⟨g1, g2⟩ | ⟨f, g1, g2, g3, g4⟩
  · rw [if_pos (by omega)] at hs
    refine ⟨by omega, fun u => ⟨?_, ?_⟩⟩
    · rintro ⟨k, h1, h2⟩; omega
    · rintro ⟨q, r, h1, h2, h3, h4⟩; exact absurd h4 (g2 r (by omega))
  · rw [if_neg (by omega), g2] at hs
    have hs' : pa = (filT (acB h x) h.T f).length := by simp at hs; omega
    have hle := filT_mono (P := acB h x) (T := h.T) n (show f ≤ n by omega)
    refine ⟨by omega, fun u => ⟨?_, ?_⟩⟩
    · rintro ⟨k, h1, h3⟩
      obtain ⟨r, k1, k2, k3, k4⟩ := filT_idx n (show k < (filT (acB h x) h.T n).length by omega)
      refine ⟨r, f, ?_, g1, ta_ac k2 (by rw [← k4, h3]), g3⟩
      rcases Nat.lt_or_ge r f with hh | hh
      · exact hh
      · have := filT_mono (P := acB h x) (T := h.T) r hh; omega
    · rintro ⟨q, r, h1, h2, h3, h4⟩
      have hfq : r ≤ f := by
        rcases Nat.lt_or_ge f r with hh | hh
        · exact absurd h4 (g4 r hh h2)
        · exact hh
      refine ⟨(filT (acB h x) h.T q).length, ?_, ?_⟩
      · have := filT_lt (T := h.T) (show q < f by omega) (ac_ta h3); omega
      · rw [filT_at (ac_ta h3) n (by omega)]; exact T_ta h3
theorem pw_iff {n pw : Nat} (hs : (pw : Int) = if lstP (trB h x t) n < 0 then 0 else ((wrsF h x (lstP (trB h x t) n).toNat).length : Int)) :
    pw ≤ (wrsF h x n).length ∧ ∀ u, (∃ k, k < pw ∧ (wrsF h x n).getD k 0 = u) ↔ ∃ q r, q < r ∧ r < n ∧ twB h x u q = true ∧ trB h x t r = true := by
  simp only [wrsF_fil] at *
  rcases lstP_spec (trB h x t) n with ⟨g1, g2⟩ | ⟨f, g1, g2, g3, g4⟩
  · rw [if_pos (by omega)] at hs
    refine ⟨by omega, fun u => ⟨?_, ?_⟩⟩
    · rintro ⟨k, h1, h2⟩; omega
    · rintro ⟨q, r, h1, h2, h3, h4⟩; exact absurd h4 (g2 r (by omega))
  · rw [if_neg (by omega), g2] at hs
    have hs' : pw = (filT (awB h x) h.T f).length := by simp at hs; omega
    have hle := filT_mono (P := awB h x) (T := h.T) n (show f ≤ n by omega)
    refine ⟨by omega, fun u => ⟨?_, ?_⟩⟩
    · rintro ⟨k, h1, h3⟩
      obtain ⟨r, k1, k2, k3, k4⟩ := filT_idx n (show k < (filT (awB h x) h.T n).length by omega)
      refine ⟨r, f, ?_, g1, tw_aw k2 (by rw [← k4, h3]), g3⟩
      rcases Nat.lt_or_ge r f with hh | hh
      · exact hh
      · have := filT_mono (P := awB h x) (T := h.T) r hh; omega
    · rintro ⟨q, r, h1, h2, h3, h4⟩
      have hfq : r ≤ f := by
        rcases Nat.lt_or_ge f r with hh | hh
        · exact absurd h4 (g4 r hh h2)
        · exact hh
      refine ⟨(filT (awB h x) h.T q).length, ?_, ?_⟩
      · have := filT_lt (T := h.T) (show q < f by omega) (aw_tw h3); omega
      · rw [filT_at (aw_tw h3) n (by omega)]; exact T_ta (ta_tw h3)

theorem Rg7.of {c : Tch} (hc : oneT h t x h.n = some c) (hi : c.item = x) : ∃ sa sw pa pw, Rg7 h x t (finT h c) sa sw pa pw := by
  have fi := FI.all h x t h.n
  rw [hc] at fi
  have e1 : (finT h c).sa = if fstP (twB h x t) h.n < 0 then ((accF h x h.n).length : Int) else ((accF h x (fstP (twB h x t) h.n).toNat).length : Int) + 1 := by
    show (if c.sa < 0 then ((accF h c.item h.n).length : Int) else c.sa) = _
    rw [hi, show c.sa = _ from fi.sa]
    by_cases h3 : fstP (twB h x t) h.n < 0
    · rw [if_pos h3, if_pos h3, if_pos (by decide)]
    · rw [if_neg h3, if_neg h3, if_neg (by omega)]
  have e2 : (finT h c).sw = if fstP (trB h x t) h.n < 0 then ((wrsF h x h.n).length : Int) else ((wrsF h x (fstP (trB h x t) h.n).toNat).length : Int) := by
    show (if c.sw < 0 then ((wrsF h c.item h.n).length : Int) else c.sw) = _
    rw [hi, show c.sw = _ from fi.sw]
    by_cases h3 : fstP (trB h x t) h.n < 0
    · rw [if_pos h3, if_pos h3, if_pos (by decide)]
    · rw [if_neg h3, if_neg h3, if_neg (by omega)]
  have e3 : (finT h c).pa = _ := fi.pa
  have e4 : (finT h c).pw = _ := fi.pw
  obtain ⟨sa, hsa⟩ : ∃ k : Nat, (finT h c).sa = k := ⟨(finT h c).sa.toNat, by rw [e1]; split <;> omega⟩
  obtain ⟨sw, hsw⟩ : ∃ k : Nat, (finT h c).sw = k := ⟨(finT h c).sw.toNat, by rw [e2]; split <;> omega⟩
  obtain ⟨pa, hpa⟩ : ∃ k : Nat, (finT h c).pa = k := ⟨(finT h c).pa.toNat, by rw [e3]; split <;> omega⟩
  obtain ⟨pw, hpw⟩ : ∃ k : Nat, (finT h c).pw = k := ⟨(finT h c).pw.toNat, by rw [e4]; split <;> omega⟩
  obtain ⟨a1, a2⟩ := sa_iff (hsa.symm.trans e1)
  obtain ⟨b1, b2⟩ := sw_iff (hsw.symm.trans e2)
  obtain ⟨c1, c2⟩ := pa_iff (hpa.symm.trans e3)
  obtain ⟨d1, d2⟩ := pw_iff (hpw.symm.trans e4)
  refine ⟨sa, sw, pa, pw, hsa, hsw, hpa, hpw, a1, b1, c1, d1, fun u => ?_, fun u => ?_⟩
  · rw [a2, b2]
    constructor
    · rintro (⟨q, r, h1, h2, h3, h4⟩ | ⟨q, r, h1, h2, h3, h4⟩)
      · exact ⟨q, r, h1, h2, ta_tw h3, h4, .inl (tw_w h3)⟩
      · exact ⟨q, r, h1, h2, ta_tr h3, ta_tw h4, .inr (tw_w h4)⟩
    · rintro ⟨q, r, h1, h2, h3, h4, h5⟩
      by_cases h6 : h.A q = 119
      · exact .inl ⟨q, r, h1, h2, tw_ta h3 h6, h4⟩
      · exact .inr ⟨q, r, h1, h2, tr_ta h3 h6, tw_ta h4 (h5.resolve_left h6)⟩
  · rw [c2, d2]
    constructor
    · rintro (⟨q, r, h1, h2, h3, h4⟩ | ⟨q, r, h1, h2, h3, h4⟩)
      · exact ⟨q, r, h1, h2, h3, ta_tw h4, .inr (tw_w h4)⟩
      · exact ⟨q, r, h1, h2, ta_tw h3, ta_tr h4, .inl (tw_w h3)⟩
    · rintro ⟨q, r, h1, h2, h3, h4, h5⟩
      by_cases h6 : h.A r = 119
      · exact .inl ⟨q, r, h1, h2, h3, tw_ta h4 h6⟩
      · exact .inr ⟨q, r, h1, h2, tw_ta h3 (h5.resolve_right h6), tr_ta h4 h6⟩
end
end Go.Proofs.Qxb6602549a
