/-
  The marks that law 7 sets and clears, in plain terms.
-/
import Derived.Test.Qxb6602549aConf
namespace Go.Proofs.Qxb6602549a
open Go Go.RowKit
set_option linter.unusedSimpArgs false
set_option linter.unusedVariables false

theorem setI {F G : Nat → Int} {n i : Nat} {v : Int} (h : ∀ k, G k = if k = i then v else F k) : ∀ k, k < n → setF (fun i => Value.int .i64 (F i)) i (.int .i64 v) k = (fun i => Value.int .i64 (G i)) k := by
  intro k _
  show (if k = i then Value.int .i64 v else Value.int .i64 (F k)) = Value.int .i64 (G k)
  rw [h k]
  split <;> rfl
theorem setB {F G : Nat → Bool} {n i : Nat} {v : Bool} (h : ∀ k, G k = if k = i then v else F k) : ∀ k, k < n → setF (fun i => Value.bool (F i)) i (.bool v) k = (fun i => Value.bool (G i)) k := by
  intro k _
  show (if k = i then Value.bool v else Value.bool (F k)) = Value.bool (G k)
  rw [h k]
  split <;> rfl

/-- the arrays are laid with -1 one by one -/
def iniF : Nat → Nat → Int
  | 0, _ => 0
  | k + 1, i => if i = k then -1 else iniF k i
theorem iniF_lt {i : Nat} : ∀ k, i < k → iniF k i = -1
  | 0, h => by omega
  | k + 1, h => by
    rw [iniF]
    split
    · rfl
    · exact iniF_lt k (by omega)

/-! ### First and last, a step at a time -/
section
variable {S : Nat → Bool} {T : Nat → Nat} {p : Nat}
def sel (S : Nat → Bool) (T : Nat → Nat) (k q : Nat) : Bool := S q && decide (T q = k)
theorem sel_self (hs : S p = true) : sel S T (T p) p = true := by simp [sel, hs]
theorem sel_ne {k : Nat} (h : ¬ k = T p) : ¬ sel S T k p = true := by
  unfold sel
  simp only [Bool.and_eq_true, decide_eq_true_eq]
  exact fun hh => h hh.2.symm
theorem sel_off {k : Nat} (hs : ¬ S p = true) : ¬ sel S T k p = true := by
  unfold sel
  simp only [Bool.and_eq_true, decide_eq_true_eq]
  exact fun hh => hs hh.1
theorem sel_fy (hs : S p = true) (hf : fstP (sel S T (T p)) p < 0) (k : Nat) : fstP (sel S T k) (p + 1) = if k = T p then (p : Int) else fstP (sel S T k) p := by
  rw [fstP]
  by_cases h1 : k = T p
  · subst h1
    rw [if_pos (sel_self hs), if_pos hf, if_pos rfl]
  · rw [if_neg (sel_ne h1), if_neg h1]
theorem sel_fk (hs : S p = true) (hf : ¬ fstP (sel S T (T p)) p < 0) (k : Nat) : fstP (sel S T k) (p + 1) = fstP (sel S T k) p := by
  rw [fstP]
  by_cases h1 : k = T p
  · subst h1
    rw [if_pos (sel_self hs), if_neg hf]
  · rw [if_neg (sel_ne h1)]
theorem sel_ly (hs : S p = true) (k : Nat) : lstP (sel S T k) (p + 1) = if k = T p then (p : Int) else lstP (sel S T k) p := by
  rw [lstP]
  by_cases h1 : k = T p
  · subst h1
    rw [if_pos (sel_self hs), if_pos rfl]
  · rw [if_neg (sel_ne h1), if_neg h1]
theorem sel_fn (hs : ¬ S p = true) (k : Nat) : fstP (sel S T k) (p + 1) = fstP (sel S T k) p := fst_no (sel_off hs)
theorem sel_ln (hs : ¬ S p = true) (k : Nat) : lstP (sel S T k) (p + 1) = lstP (sel S T k) p := lst_no (sel_off hs)
end

section
variable {h : HRec} {x p : Nat}
theorem fa_y (hs : acB h x p = true) (hf : fstP (taB h x (h.T p)) p < 0) (k : Nat) : fstP (taB h x k) (p + 1) = if k = h.T p then (p : Int) else fstP (taB h x k) p := sel_fy (S := acB h x) (T := h.T) hs hf k
theorem fa_k (hs : acB h x p = true) (hf : ¬ fstP (taB h x (h.T p)) p < 0) (k : Nat) : fstP (taB h x k) (p + 1) = fstP (taB h x k) p := sel_fk (S := acB h x) (T := h.T) hs hf k
theorem la_y (hs : acB h x p = true) (k : Nat) : lstP (taB h x k) (p + 1) = if k = h.T p then (p : Int) else lstP (taB h x k) p := sel_ly (S := acB h x) (T := h.T) hs k
theorem fa_n (hs : ¬ acB h x p = true) (k : Nat) : fstP (taB h x k) (p + 1) = fstP (taB h x k) p := sel_fn (S := acB h x) (T := h.T) hs k
theorem la_n (hs : ¬ acB h x p = true) (k : Nat) : lstP (taB h x k) (p + 1) = lstP (taB h x k) p := sel_ln (S := acB h x) (T := h.T) hs k
theorem fw_y (hs : awB h x p = true) (hf : fstP (twB h x (h.T p)) p < 0) (k : Nat) : fstP (twB h x k) (p + 1) = if k = h.T p then (p : Int) else fstP (twB h x k) p := sel_fy (S := awB h x) (T := h.T) hs hf k
theorem fw_k (hs : awB h x p = true) (hf : ¬ fstP (twB h x (h.T p)) p < 0) (k : Nat) : fstP (twB h x k) (p + 1) = fstP (twB h x k) p := sel_fk (S := awB h x) (T := h.T) hs hf k
theorem lw_y (hs : awB h x p = true) (k : Nat) : lstP (twB h x k) (p + 1) = if k = h.T p then (p : Int) else lstP (twB h x k) p := sel_ly (S := awB h x) (T := h.T) hs k
theorem fw_n (hs : ¬ awB h x p = true) (k : Nat) : fstP (twB h x k) (p + 1) = fstP (twB h x k) p := sel_fn (S := awB h x) (T := h.T) hs k
theorem lw_n (hs : ¬ awB h x p = true) (k : Nat) : lstP (twB h x k) (p + 1) = lstP (twB h x k) p := sel_ln (S := awB h x) (T := h.T) hs k
theorem aw_ac (hs : awB h x p = true) : acB h x p = true := by rw [awB_iff] at hs; rw [acB_iff]; exact ⟨hs.1, hs.2.1⟩
end

/-! ### Marks -/
def mk (S : Nat → Bool) (l : List Nat) (lo : Nat) : Nat → Nat → Bool
  | 0, u => S u
  | k + 1, u => mk S l lo k u || (decide (lo ≤ k) && decide (l.getD k 0 = u))
theorem mk_iff (S : Nat → Bool) (l : List Nat) (lo u : Nat) : ∀ k, mk S l lo k u = true ↔ S u = true ∨ ∃ j, lo ≤ j ∧ j < k ∧ l.getD j 0 = u
  | 0 => by
    show S u = true ↔ _
    constructor
    · exact .inl
    · rintro (h1 | ⟨j, _, h1, _⟩)
      · exact h1
      · omega
  | k + 1 => by
    have ih := mk_iff S l lo u k
    rw [mk, Bool.or_eq_true, ih, Bool.and_eq_true, decide_eq_true_eq, decide_eq_true_eq]
    constructor
    · rintro ((h1 | ⟨j, h1, h2, h3⟩) | ⟨h1, h2⟩)
      · exact .inl h1
      · exact .inr ⟨j, h1, by omega, h3⟩
      · exact .inr ⟨k, h1, by omega, h2⟩
    · rintro (h1 | ⟨j, h1, h2, h3⟩)
      · exact .inl (.inl h1)
      · by_cases hj : j = k
        · subst hj; exact .inr ⟨h1, h3⟩
        · exact .inl (.inr ⟨j, h1, by omega, h3⟩)
theorem mk_start (S : Nat → Bool) (l : List Nat) (lo : Nat) (u : Nat) : mk S l lo lo u = S u := by
  rw [Bool.eq_iff_iff, mk_iff]
  constructor
  · rintro (h1 | ⟨j, h1, h2, _⟩)
    · exact h1
    · omega
  · exact .inl
theorem mk_yes {S : Nat → Bool} {l : List Nat} {lo k : Nat} (hk : lo ≤ k) (u : Nat) : mk S l lo (k + 1) u = if u = l.getD k 0 then true else mk S l lo k u := by
  rw [mk]
  by_cases h1 : u = l.getD k 0
  · rw [if_pos h1, decide_eq_true hk, decide_eq_true h1.symm]; simp
  · rw [if_neg h1, decide_eq_false (show ¬ l.getD k 0 = u from fun hh => h1 hh.symm)]; simp

def clr (S : Nat → Bool) (l : List Nat) : Nat → Nat → Bool
  | 0, u => S u
  | k + 1, u => if u = l.getD k 0 then false else clr S l k u
theorem clr_true (S : Nat → Bool) (l : List Nat) (u : Nat) : ∀ k, clr S l k u = true → S u = true ∧ ∀ j, j < k → l.getD j 0 ≠ u
  | 0, h => ⟨h, fun j hj => by omega⟩
  | k + 1, h => by
    rw [clr] at h
    by_cases h1 : u = l.getD k 0
    · rw [if_pos h1] at h; cases h
    · rw [if_neg h1] at h
      obtain ⟨h2, h3⟩ := clr_true S l u k h
      refine ⟨h2, fun j hj => ?_⟩
      by_cases h4 : j = k
      · subst h4; exact fun hh => h1 hh.symm
      · exact h3 j (by omega)
/-- all marks go -/
theorem clr_all {S : Nat → Bool} {a w : List Nat} (h : ∀ u, S u = true → (∃ j, j < a.length ∧ a.getD j 0 = u) ∨ (∃ j, j < w.length ∧ w.getD j 0 = u)) (u : Nat) : clr (clr S a a.length) w w.length u = false := by
  rw [Bool.eq_false_iff]
  intro h1
  obtain ⟨h2, h3⟩ := clr_true _ _ _ _ h1
  obtain ⟨h4, h5⟩ := clr_true _ _ _ _ h2
  rcases h u h4 with ⟨j, h6, h7⟩ | ⟨j, h6, h7⟩
  · exact h5 j h6 h7
  · exact h3 j h6 h7

def rst (h : HRec) (x : Nat) (F : Nat → Int) : Nat → Nat → Int
  | 0, u => F u
  | p + 1, u => if h.I p = (x : Int) ∧ u = h.T p then -1 else rst h x F p u
theorem rst_y {h : HRec} {x p : Nat} {F : Nat → Int} (hx : h.I p = (x : Int)) (u : Nat) : rst h x F (p + 1) u = if u = h.T p then -1 else rst h x F p u := by
  rw [rst]
  by_cases h1 : u = h.T p
  · rw [if_pos ⟨hx, h1⟩, if_pos h1]
  · rw [if_neg (fun hh => h1 hh.2), if_neg h1]
theorem rst_n {h : HRec} {x p : Nat} {F : Nat → Int} (hx : ¬ h.I p = (x : Int)) (u : Nat) : rst h x F (p + 1) u = rst h x F p u := by
  rw [rst, if_neg (fun hh => hx hh.1)]
theorem rst_or (h : HRec) (x : Nat) (F : Nat → Int) (u : Nat) : ∀ p, rst h x F p u = -1 ∨ (rst h x F p u = F u ∧ ∀ q, q < p → ¬ (h.I q = (x : Int) ∧ u = h.T q))
  | 0 => .inr ⟨rfl, fun q hq => by omega⟩
  | p + 1 => by
    rw [rst]
    by_cases h1 : h.I p = (x : Int) ∧ u = h.T p
    · rw [if_pos h1]; exact .inl rfl
    · rw [if_neg h1]
      rcases rst_or h x F u p with h2 | ⟨h2, h3⟩
      · exact .inl h2
      · refine .inr ⟨h2, fun q hq => ?_⟩
        by_cases h4 : q = p
        · subst h4; exact h1
        · exact h3 q (by omega)
theorem rst_f {h : HRec} {x u n : Nat} {P : Nat → Nat → Bool} (hP : ∀ q, P u q = true → taB h x u q = true) : rst h x (fun u => fstP (P u) n) n u = -1 := by
  rcases rst_or h x (fun u => fstP (P u) n) u n with h1 | ⟨h1, h2⟩
  · exact h1
  · rw [h1]
    show fstP (P u) n = -1
    rcases fstP_spec (P u) n with ⟨g1, _⟩ | ⟨f, g1, g2, g3, g4⟩
    · exact g1
    · have := taB_iff.1 (hP f g3)
      exact absurd ⟨this.1.2, this.2.symm⟩ (h2 f g1)
theorem rst_l {h : HRec} {x u n : Nat} {P : Nat → Nat → Bool} (hP : ∀ q, P u q = true → taB h x u q = true) : rst h x (fun u => lstP (P u) n) n u = -1 := by
  rcases rst_or h x (fun u => lstP (P u) n) u n with h1 | ⟨h1, h2⟩
  · exact h1
  · rw [h1]
    show lstP (P u) n = -1
    rcases lstP_spec (P u) n with ⟨g1, _⟩ | ⟨f, g1, g2, g3, g4⟩
    · exact g1
    · have := taB_iff.1 (hP f g3)
      exact absurd ⟨this.1.2, this.2.symm⟩ (h2 f g1)

/-! ### Counts and places -/
section
variable {h : HRec} {p x t : Nat}
theorem xsF_skip (hl : lvB h p = false) : xsF h t (p + 1) = xsF h t p := by
  rw [xsF, if_neg (fun hh => by rw [hl] at hh; exact Bool.false_ne_true hh.1)]
theorem xsF_old (hx : h.I p = (x : Nat)) (hm : x ∈ xsF h (h.T p) p) : xsF h t (p + 1) = xsF h t p := by
  rw [xsF, if_neg (fun hh => hh.2.2 (by rw [itm_eq hx, ← hh.2.1]; exact hm))]
theorem xsF_new (hl : lvB h p = true) (hx : h.I p = (x : Nat)) (hm : ¬ x ∈ xsF h (h.T p) p) (k : Nat) : ((xsF h k (p + 1)).length : Int) = if k = h.T p then ((xsF h (h.T p) p).length : Int) + 1 else ((xsF h k p).length : Int) := by
  rw [xsF]
  by_cases h1 : k = h.T p
  · subst h1
    rw [if_pos ⟨hl, rfl, by rw [itm_eq hx]; exact hm⟩, if_pos rfl, List.length_append]; rfl
  · rw [if_neg (fun hh => h1 hh.2.1.symm), if_neg h1]
theorem acc_lt (ho : HOK h) {k : Nat} (hk : k < (accF h x h.n).length) : (accF h x h.n).getD k 0 < h.nt := by
  rw [accF_fil] at hk ⊢
  obtain ⟨q, h1, h2, h3, h4⟩ := filT_idx h.n hk
  rw [h4]; exact (ho.ok q h1).1
theorem wrs_lt (ho : HOK h) {k : Nat} (hk : k < (wrsF h x h.n).length) : (wrsF h x h.n).getD k 0 < h.nt := by
  rw [wrsF_fil] at hk ⊢
  obtain ⟨q, h1, h2, h3, h4⟩ := filT_idx h.n hk
  rw [h4]; exact (ho.ok q h1).1
theorem tch_ne (h : HRec) (t n : Nat) {i k : Nat} (hi : i < (tchF h t n).length) (hk : k < i) : ((tchF h t n).getD k (newT 0)).item ≠ ((tchF h t n).getD i (newT 0)).item := by
  intro hh
  have hn : ((tchF h t n).map (·.item)).Nodup := by rw [tchF_items]; exact xsF_nodup h t n
  have e1 := findT_at (newT 0) (tchF h t n) i hi hn
  have e2 := findT_at (newT 0) (tchF h t n) k (by omega) hn
  rw [hh, e1] at e2
  omega
theorem fa_nonneg {c : Tch} (hc : oneT h t x h.n = some c) : 0 ≤ fstP (taB h x t) h.n := by
  rcases fstP_spec (taB h x t) h.n with ⟨g1, g2⟩ | ⟨f, g1, g2, g3, g4⟩
  · exfalso
    have : ∀ p, p ≤ h.n → oneT h t x p = none := by
      intro p
      induction p with
      | zero => intro _; rfl
      | succ p ih =>
        intro hp
        rw [oneT, if_neg, ih (by omega)]
        rintro ⟨a1, a2, a3⟩
        refine g2 p (by omega) (taB_iff.2 ⟨⟨a1, ?_⟩, a2⟩)
        have h0 : 0 ≤ h.I p := by simp [lvB] at a1; exact a1.1
        unfold itm at a3; omega
    rw [this h.n (Nat.le_refl _)] at hc
    cases hc
  · omega
/-- what the marks say, and what agrees asks -/
theorem su_iff {c : Tch} {sa sw pa pw u : Nat} (rg : Rg7 h x t c sa sw pa pw) (h0 : 0 ≤ fstP (taB h x t) h.n) :
    ((0 ≤ fstP (twB h x t) h.n ∧ fstP (twB h x t) h.n < lstP (taB h x u) h.n) ∨ fstP (taB h x t) h.n < lstP (twB h x u) h.n) ↔ mk (mk (fun _ => false) (accF h x h.n) sa (accF h x h.n).length) (wrsF h x h.n) sw (wrsF h x h.n).length u = true := by
  rw [tu_iff h0, ← rg.su u, mk_iff, mk_iff]
  constructor
  · rintro (h1 | h1)
    · exact .inl (.inr h1)
    · exact .inr h1
  · rintro ((h1 | h1) | h1)
    · cases h1
    · exact .inl h1
    · exact .inr h1
theorem pr_iff {c : Tch} {sa sw pa pw u : Nat} (rg : Rg7 h x t c sa sw pa pw) :
    ((0 ≤ fstP (twB h x u) h.n ∧ fstP (twB h x u) h.n < lstP (taB h x t) h.n) ∨ (0 ≤ fstP (taB h x u) h.n ∧ fstP (taB h x u) h.n < lstP (twB h x t) h.n)) ↔ mk (mk (fun _ => false) (accF h x h.n) 0 pa) (wrsF h x h.n) 0 pw u = true := by
  rw [ut_iff, ← rg.pr u, mk_iff, mk_iff]
  constructor
  · rintro (⟨k, h1, h2⟩ | ⟨k, h1, h2⟩)
    · exact .inl (.inr ⟨k, Nat.zero_le _, h1, h2⟩)
    · exact .inr ⟨k, Nat.zero_le _, h1, h2⟩
  · rintro ((h1 | ⟨k, _, h1, h2⟩) | ⟨k, _, h1, h2⟩)
    · cases h1
    · exact .inl ⟨k, h1, h2⟩
    · exact .inr ⟨k, h1, h2⟩
theorem su_clr {a w : List Nat} {sa sw : Nat} (u : Nat) : clr (clr (mk (mk (fun _ => false) a sa a.length) w sw w.length) a a.length) w w.length u = false := by
  refine clr_all (fun u hu => ?_) u
  rw [mk_iff, mk_iff] at hu
  rcases hu with ((h1 | ⟨j, h1, h2, h3⟩) | ⟨j, h1, h2, h3⟩)
  · cases h1
  · exact .inl ⟨j, h2, h3⟩
  · exact .inr ⟨j, h2, h3⟩
theorem pr_clr {a w : List Nat} {pa pw : Nat} (ha : pa ≤ a.length) (hw : pw ≤ w.length) (u : Nat) : clr (clr (mk (mk (fun _ => false) a 0 pa) w 0 pw) a a.length) w w.length u = false := by
  refine clr_all (fun u hu => ?_) u
  rw [mk_iff, mk_iff] at hu
  rcases hu with ((h1 | ⟨j, h1, h2, h3⟩) | ⟨j, h1, h2, h3⟩)
  · cases h1
  · exact .inl ⟨j, by omega, h3⟩
  · exact .inr ⟨j, by omega, h3⟩
end
end Go.Proofs.Qxb6602549a
