/-
  newGraph: the shape of its answer, and small lemmas for the walk.
-/
import Derived.Test.Qxb6602549aNGb
namespace Go.Proofs.Qxb6602549a
open Go Go.RowKit
set_option linter.unusedSimpArgs false
set_option linter.unusedVariables false

def nilv : Value := .slice none 0 0
def gcl (h : HRec) (lv : Value) (ab wb tb ub : Nat) : List Value := [.pointer (some ⟨h.hb, 0, none⟩), lv, .slice (some ⟨ab, 0, none⟩) h.m h.m, .slice (some ⟨wb, 0, none⟩) h.m h.m, .slice (some ⟨tb, 0, none⟩) h.nt h.nt, .slice (some ⟨ub, 0, none⟩) h.nt h.nt]
theorem gcl_set (h : HRec) (a b : Value) (ab wb tb ub k : Nat) (hk : k < 6) : setF (cellsF (gcl h a ab wb tb ub)) 1 b k = cellsF (gcl h b ab wb tb ub) k := by
  have : k = 0 ∨ k = 1 ∨ k = 2 ∨ k = 3 ∨ k = 4 ∨ k = 5 := by omega
  rcases this with rfl | rfl | rfl | rfl | rfl | rfl <;> rfl

theorem hdr_same (R : Nat → Row) (t : Nat) {r r' : Row} (h : r'.val = r.val) (k : Nat) : hdr (updR R t r) k = hdr (updR R t r') k := by
  unfold hdr updR
  by_cases h1 : k = t
  · simp [h1, h]
  · simp [h1]
theorem hdr_self (R : Nat → Row) (t : Nat) (r : Row) : hdr (updR R t r) t = r.val := by unfold hdr; rw [updR_self]

theorem idxL_none {l : List Tch} {x : Nat} (h : idxL l x = none) : ¬ findT x l < l.length := by
  intro hh
  unfold idxL at h
  rw [if_pos hh] at h; cases h
theorem idxL_some {l : List Tch} {x : Nat} {v : Int} (h : idxL l x = some v) : findT x l < l.length ∧ v = findT x l := by
  unfold idxL at h
  by_cases hh : findT x l < l.length
  · rw [if_pos hh] at h
    exact ⟨hh, (Option.some.inj h).symm⟩
  · rw [if_neg hh] at h; cases h

theorem lvB_neg {h : HRec} {p : Nat} (h1 : h.I p < 0) : lvB h p = false := by
  unfold lvB
  rw [decide_eq_false (by omega)]; rfl
theorem lvB_ab {h : HRec} {p : Nat} (h1 : h.B (h.T p) = true) : lvB h p = false := by
  unfold lvB
  rw [h1]; simp
theorem lvB_yes {h : HRec} {p : Nat} (h1 : 0 ≤ h.I p) (h2 : h.B (h.T p) = false) : lvB h p = true := by
  unfold lvB
  rw [h2, decide_eq_true h1]; rfl

/-- the items while they are laid -/
def itL (k i : Nat) : Value := if i < k * 2 then itF (fun _ => -1) (fun _ => nilRow) i else cellsF [.int .i32 0, .slice none 0 0] (i % 2)
theorem itL_step (k i : Nat) : setF (itL k) (k * 2) (.int .i32 (-1)) i = itL (k + 1) i := by
  unfold setF itL
  by_cases h1 : i = k * 2
  · subst h1
    rw [if_pos rfl, if_pos (by omega), itF_0]
  · rw [if_neg h1]
    by_cases h2 : i = k * 2 + 1
    · subst h2
      rw [if_neg (by omega), if_pos (by omega), itF_1, show (k * 2 + 1) % 2 = 1 by omega]; rfl
    · by_cases h3 : i < k * 2
      · rw [if_pos h3, if_pos (by omega)]
      · rw [if_neg h3, if_neg (by omega)]

theorem tchF_item {h : HRec} (ho : HOK h) (u : Nat) : ∀ p, p ≤ h.n → ∀ i, i < (tchF h u p).length → ((tchF h u p).getD i (newT 0)).item < h.m
  | 0, _, i, hi => by simp [tchF] at hi
  | p + 1, hp, i, hi => by
    have ih := tchF_item ho u p (by omega)
    have hok := (ho.ok p (by omega)).2
    by_cases h1 : lvB h p = true ∧ h.T p = u
    · have e : tchF h u (p + 1) = setT (opT h p) (findT (itm h p) (tchF h u p)) (addT (itm h p) (tchF h u p)) := by rw [tchF, if_pos h1]
      rw [e] at hi ⊢
      rw [setT_length] at hi
      have key : ((addT (itm h p) (tchF h u p)).getD i (newT 0)).item < h.m := by
        unfold addT at hi ⊢
        by_cases h2 : findT (itm h p) (tchF h u p) < (tchF h u p).length
        · rw [if_pos h2] at hi ⊢; exact ih i hi
        · rw [if_neg h2] at hi ⊢
          by_cases h3 : i < (tchF h u p).length
          · have : (tchF h u p ++ [newT (itm h p)]).getD i (newT 0) = (tchF h u p).getD i (newT 0) := by simp [List.getElem?_append_left h3]
            rw [this]; exact ih i h3
          · have h4 : i = (tchF h u p).length := by simp at hi; omega
            subst h4
            have h5 : (0 : Int) ≤ h.I p := by
              have := h1.1
              unfold lvB at this
              simp at this
              exact this.1
            have : (tchF h u p ++ [newT (itm h p)]).getD (tchF h u p).length (newT 0) = newT (itm h p) := by simp
            rw [this]
            show itm h p < h.m
            unfold itm
            omega
      rw [setT_getD]
      split
      · rw [opT_item]; exact key
      · exact key
    · have e : tchF h u (p + 1) = tchF h u p := by rw [tchF, if_neg h1]
      rw [e] at hi ⊢
      exact ih i hi

def fixF (h : HRec) : Nat → List Tch → List Tch
  | 0, l => l
  | _ + 1, [] => []
  | i + 1, c :: l => finT h c :: fixF h i l
theorem fixF_length (h : HRec) : ∀ (i : Nat) (l : List Tch), (fixF h i l).length = l.length
  | 0, l => rfl
  | i + 1, [] => rfl
  | i + 1, c :: l => by simp [fixF, fixF_length h i l]
theorem fixF_step (h : HRec) : ∀ (i : Nat) (l : List Tch), setT (finT h) i (fixF h i l) = fixF h (i + 1) l
  | 0, [] => rfl
  | 0, c :: l => rfl
  | i + 1, [] => rfl
  | i + 1, c :: l => by
    show finT h c :: setT (finT h) i (fixF h i l) = finT h c :: fixF h (i + 1) l
    rw [fixF_step h i l]
theorem fixF_all (h : HRec) : ∀ (i : Nat) (l : List Tch), l.length ≤ i → fixF h i l = l.map (finT h)
  | 0, [], _ => rfl
  | 0, c :: l, hh => by simp at hh
  | i + 1, [], _ => rfl
  | i + 1, c :: l, hh => by
    show finT h c :: fixF h i l = _
    rw [fixF_all h i l (by simpa using hh)]; rfl
theorem fixF_at (h : HRec) (z : Tch) : ∀ (i : Nat) (l : List Tch), (fixF h i l).getD i z = l.getD i z
  | 0, l => rfl
  | i + 1, [] => rfl
  | i + 1, c :: l => by
    show (fixF h i l).getD i z = l.getD i z
    exact fixF_at h z i l

structure NS where
  p : Nat
  g : NG

structure GRows where
  Rl : Nat → Row
  Ra : Nat → Row
  Rw : Nat → Row
  Rt : Nat → Row
  Ro : Nat → Row

/-- what newGraph's answer stands for -/
structure GInv (h : HRec) (G : GRows) : Prop where
  live : RepI (G.Rl 0) (liveF h h.nt)
  acc : ∀ x, x < h.m → RepI (G.Ra x) (accF h x h.n)
  wrs : ∀ x, x < h.m → RepI (G.Rw x) (wrsF h x h.n)
  out : ∀ t, t < h.nt → RepI (G.Ro t) (outF h t h.n)
  tch : ∀ t, t < h.nt → RepT (G.Rt t) ((tchF h t h.n).map (finT h))

/-- where it lies -/
def GL (h : HRec) (G : GRows) (gb ab wb tb ub : Nat) (L : List Chunk) : List Chunk :=
  Fam h.nt 1 21 G.Ro :: Fam h.nt 8 68 G.Rt :: Fam h.m 1 21 G.Rw :: Fam h.m 1 21 G.Ra :: Fam 1 1 21 G.Rl :: Blk gb 6 (cellsF (gcl h (G.Rl 0).val ab wb tb ub)) :: Blk ab h.m (hdr G.Ra) :: Blk wb h.m (hdr G.Rw) :: Blk tb h.nt (hdr G.Rt) :: Blk ub h.nt (hdr G.Ro) :: L
end Go.Proofs.Qxb6602549a
