/-
  newGraph's state, a step at a time, in plain terms.
-/
import Derived.Test.Qxb6602549aNGa
namespace Go.Proofs.Qxb6602549a
open Go Go.RowKit
set_option linter.unusedSimpArgs false
set_option linter.unusedVariables false

def liveF (h : HRec) : Nat → List Nat
  | 0 => []
  | t + 1 => if h.B t = true then liveF h t else liveF h t ++ [t]
theorem liveF_length (h : HRec) : ∀ p, (liveF h p).length ≤ p
  | 0 => by simp [liveF]
  | p + 1 => by
    have := liveF_length h p
    simp only [liveF]; split <;> simp <;> omega

theorem NInv.start (h : HRec) : NInv h ⟨fun _ => nilRow, fun _ => nilRow, fun _ => nilRow, fun _ => nilRow, fun _ => nilRow, fun _ => -1, fun _ => none⟩ 0 0 :=
  ⟨fun x _ => RepI.nil, fun x _ => RepI.nil, fun x _ => RepI.nil, fun x _ => rfl, fun x _ => RepI.nil, fun x _ => RepT.nil, fun t x _ _ => by simp [idxF, idxL, tchF]⟩

section
variable {h : HRec} {g : NG} {p : Nat}

theorem NInv.skip (hi : NInv h g p p) (hl : lvB h p = false) : NInv h g (p + 1) (p + 1) := by
  have hf : ¬ lvB h p = true := by rw [hl]; simp
  refine ⟨fun x hx => ?_, fun x hx => ?_, fun x hx => ?_, fun x hx => ?_, fun t ht => ?_, fun t ht => ?_, fun t x ht hx => ?_⟩
  · have e : accF h x (p + 1) = accF h x p := by simp only [accF]; rw [if_neg (fun hh => hf hh.1)]
    rw [e]; exact hi.acc x hx
  · have e : wrsF h x (p + 1) = wrsF h x p := by simp only [wrsF]; rw [if_neg (fun hh => hf hh.1)]
    rw [e]; exact hi.wrs x hx
  · have e : rdsF h x (p + 1) = rdsF h x p := by simp only [rdsF]; rw [if_neg (fun hh => hf hh.1)]
    rw [e]; exact hi.rds x hx
  · have e : wrtF h x (p + 1) = wrtF h x p := by simp only [wrtF]; rw [if_neg (fun hh => hf hh.1)]
    rw [e]; exact hi.wrt x hx
  · have e : outF h t (p + 1) = outF h t p := by simp only [outF]; rw [if_neg hf]
    rw [e]; exact hi.out t ht
  · have e : tchF h t (p + 1) = tchF h t p := by simp only [tchF]; rw [if_neg (fun hh => hf hh.1)]
    rw [e]; exact hi.tch t ht
  · rw [idxF_step, if_neg (fun hh => hf hh.1)]; exact hi.idx t x ht hx

theorem itm_eq {x : Nat} (hx : h.I p = x) : itm h p = x := by unfold itm; omega

theorem idx_next {x i0 : Nat} {f' : Nat → Option Int} (hi : NInv h g p p) (hl : lvB h p = true) (hx : h.I p = x) (hxm : x < h.m) (hm : h.m ≤ 65536) (hi0 : i0 = findT x (tchF h (h.T p) p))
    (hf : ∀ q, f' q = if q = keyOf (h.T p) x then some (i0 : Int) else g.f q) : ∀ t y, t < h.nt → y < h.m → f' (keyOf t y) = idxF h (p + 1) t y := by
  intro t y ht hy
  rw [hf, idxF_step, itm_eq hx]
  by_cases h1 : h.T p = t ∧ x = y
  · obtain ⟨rfl, rfl⟩ := h1
    rw [if_pos rfl, if_pos ⟨hl, rfl, rfl⟩, hi0]
  · have h2 : ¬ keyOf t y = keyOf (h.T p) x := fun hh => by
      have := keyOf_inj (by omega) (by omega) hh
      exact h1 ⟨this.1.symm, this.2.symm⟩
    rw [if_neg h2, if_neg (fun hh => h1 hh.2)]
    exact hi.idx t y ht hy

theorem tch_next {x : Nat} {rt : Row} (hi : NInv h g p p) (hl : lvB h p = true) (hx : h.I p = x)
    (hrt : RepT rt (setT (opT h p) (findT x (tchF h (h.T p) p)) (addT x (tchF h (h.T p) p)))) : ∀ t, t < h.nt → RepT (updR g.Rt (h.T p) rt t) (tchF h t (p + 1)) := by
  intro t ht
  by_cases h1 : t = h.T p
  · subst h1
    rw [updR_self]
    have e : tchF h (h.T p) (p + 1) = setT (opT h p) (findT (itm h p) (tchF h (h.T p) p)) (addT (itm h p) (tchF h (h.T p) p)) := by
      rw [tchF, if_pos ⟨hl, rfl⟩]
    rw [e, itm_eq hx]; exact hrt
  · rw [updR_ne _ _ h1]
    have e : tchF h t (p + 1) = tchF h t p := by simp only [tchF]; rw [if_neg (fun hh => h1 hh.2.symm)]
    rw [e]; exact hi.tch t ht

theorem NInv.read {x i0 : Nat} {rt rr : Row} {Ro' : Nat → Row} {f' : Nat → Option Int} (hi : NInv h g p p) (hl : lvB h p = true) (hx : h.I p = x) (hxm : x < h.m) (hm : h.m ≤ 65536) (hA : h.A p = 114) (hi0 : i0 = findT x (tchF h (h.T p) p))
    (hrt : RepT rt (setT (rdT (wrsF h x p).length (wrtF h x p) (h.T p)) i0 (addT x (tchF h (h.T p) p)))) (hro : ∀ u, u < h.nt → RepI (Ro' u) (outF h u p ++ wedge h p u)) (hrr : RepI rr (rdsF h x p ++ [h.T p]))
    (hf : ∀ q, f' q = if q = keyOf (h.T p) x then some (i0 : Int) else g.f q) : NInv h ⟨g.Ra, g.Rw, updR g.Rt (h.T p) rt, Ro', updR g.Rr x rr, g.wr, f'⟩ p (p + 1) := by
  have hA2 : ¬ h.A p = 119 := by rw [hA]; decide
  refine ⟨hi.acc, fun y hy => ?_, fun y hy => ?_, fun y hy => ?_, fun t ht => ?_, tch_next hi hl hx ?_, idx_next hi hl hx hxm hm hi0 hf⟩
  · have e : wrsF h y (p + 1) = wrsF h y p := by simp only [wrsF]; rw [if_neg (fun hh => hA2 hh.2.2)]
    rw [e]; exact hi.wrs y hy
  · show RepI (updR g.Rr x rr y) _
    by_cases h1 : y = x
    · subst h1
      rw [updR_self]
      have e : rdsF h y (p + 1) = rdsF h y p ++ [h.T p] := by simp only [rdsF]; rw [if_pos ⟨hl, hx⟩, if_neg hA2]
      rw [e]; exact hrr
    · rw [updR_ne _ _ h1]
      have e : rdsF h y (p + 1) = rdsF h y p := by simp only [rdsF]; rw [if_neg (fun hh => h1 (by have := hh.2; omega))]
      rw [e]; exact hi.rds y hy
  · have e : wrtF h y (p + 1) = wrtF h y p := by simp only [wrtF]; rw [if_neg (fun hh => hA2 hh.2.2)]
    rw [e]; exact hi.wrt y hy
  · have e : outF h t (p + 1) = outF h t p ++ wedge h p t := by simp only [outF]; rw [if_pos hl, if_neg hA2, List.append_nil]
    rw [e]; exact hro t ht
  · rw [← hi0]
    have e : opT h p = rdT (wrsF h x p).length (wrtF h x p) (h.T p) := by unfold opT; rw [if_neg hA2, itm_eq hx]
    rw [e]; exact hrt

theorem NInv.write {x i0 : Nat} {rt rr rw' : Row} {Ro' : Nat → Row} {f' : Nat → Option Int} (hi : NInv h g p p) (hl : lvB h p = true) (hx : h.I p = x) (hxm : x < h.m) (hm : h.m ≤ 65536) (hA : h.A p = 119) (hi0 : i0 = findT x (tchF h (h.T p) p))
    (hrt : RepT rt (setT (wrT (accF h x p).length) i0 (addT x (tchF h (h.T p) p)))) (hro : ∀ u, u < h.nt → RepI (Ro' u) ((outF h u p ++ wedge h p u) ++ redges (h.T p) u (rdsF h x p))) (hrr : RepI rr []) (hrw : RepI rw' (wrsF h x p ++ [h.T p]))
    (hf : ∀ q, f' q = if q = keyOf (h.T p) x then some (i0 : Int) else g.f q) : NInv h ⟨g.Ra, updR g.Rw x rw', updR g.Rt (h.T p) rt, Ro', updR g.Rr x rr, updI g.wr x (h.T p), f'⟩ p (p + 1) := by
  refine ⟨hi.acc, fun y hy => ?_, fun y hy => ?_, fun y hy => ?_, fun t ht => ?_, tch_next hi hl hx ?_, idx_next hi hl hx hxm hm hi0 hf⟩
  · show RepI (updR g.Rw x rw' y) _
    by_cases h1 : y = x
    · subst h1
      rw [updR_self]
      have e : wrsF h y (p + 1) = wrsF h y p ++ [h.T p] := by simp only [wrsF]; rw [if_pos ⟨hl, hx, hA⟩]
      rw [e]; exact hrw
    · rw [updR_ne _ _ h1]
      have e : wrsF h y (p + 1) = wrsF h y p := by simp only [wrsF]; rw [if_neg (fun hh => h1 (by have := hh.2.1; omega))]
      rw [e]; exact hi.wrs y hy
  · show RepI (updR g.Rr x rr y) _
    by_cases h1 : y = x
    · subst h1
      rw [updR_self]
      have e : rdsF h y (p + 1) = [] := by simp only [rdsF]; rw [if_pos ⟨hl, hx⟩, if_pos hA]
      rw [e]; exact hrr
    · rw [updR_ne _ _ h1]
      have e : rdsF h y (p + 1) = rdsF h y p := by simp only [rdsF]; rw [if_neg (fun hh => h1 (by have := hh.2; omega))]
      rw [e]; exact hi.rds y hy
  · show updI g.wr x (h.T p) y = _
    unfold updI
    by_cases h1 : y = x
    · subst h1
      rw [if_pos rfl]
      simp only [wrtF]; rw [if_pos ⟨hl, hx, hA⟩]
    · rw [if_neg h1]
      have e : wrtF h y (p + 1) = wrtF h y p := by simp only [wrtF]; rw [if_neg (fun hh => h1 (by have := hh.2.1; omega))]
      rw [e]; exact hi.wrt y hy
  · have e : outF h t (p + 1) = (outF h t p ++ wedge h p t) ++ redges (h.T p) t (rdsF h x p) := by simp only [outF]; rw [if_pos hl, if_pos hA, itm_eq hx]
    rw [e]; exact hro t ht
  · rw [← hi0]
    have e : opT h p = wrT (accF h x p).length := by unfold opT; rw [if_pos hA, itm_eq hx]
    rw [e]; exact hrt

theorem NInv.access {x : Nat} {ra : Row} (hi : NInv h g p (p + 1)) (hl : lvB h p = true) (hx : h.I p = x) (hra : RepI ra (accF h x p ++ [h.T p])) : NInv h ⟨updR g.Ra x ra, g.Rw, g.Rt, g.Ro, g.Rr, g.wr, g.f⟩ (p + 1) (p + 1) := by
  refine ⟨fun y hy => ?_, hi.wrs, hi.rds, hi.wrt, hi.out, hi.tch, hi.idx⟩
  show RepI (updR g.Ra x ra y) _
  by_cases h1 : y = x
  · subst h1
    rw [updR_self]
    have e : accF h y (p + 1) = accF h y p ++ [h.T p] := by simp only [accF]; rw [if_pos ⟨hl, hx⟩]
    rw [e]; exact hra
  · rw [updR_ne _ _ h1]
    have e : accF h y (p + 1) = accF h y p := by simp only [accF]; rw [if_neg (fun hh => h1 (by have := hh.2; omega))]
    rw [e]; exact hi.acc y hy

/-- the first edge of a step: from the item's last writer -/
theorem out_wedge {u0 : Nat} {ro : Row} (hi : NInv h g p p) (hw : wrtF h (itm h p) p = u0) (hne : u0 ≠ h.T p) (hro : RepI ro (outF h u0 p ++ [h.T p])) : ∀ u, u < h.nt → RepI (updR g.Ro u0 ro u) (outF h u p ++ wedge h p u) := by
  intro u hu
  unfold wedge
  by_cases h1 : u = u0
  · subst h1
    rw [updR_self, if_pos ⟨hw, hne⟩]; exact hro
  · rw [updR_ne _ _ h1, if_neg (fun hh => h1 (by have := hh.1; omega)), List.append_nil]; exact hi.out u hu
theorem out_nowedge (hi : NInv h g p p) (hw : wrtF h (itm h p) p < 0 ∨ wrtF h (itm h p) p = h.T p) : ∀ u, u < h.nt → RepI (g.Ro u) (outF h u p ++ wedge h p u) := by
  intro u hu
  unfold wedge
  rw [if_neg (fun hh => by omega), List.append_nil]; exact hi.out u hu

theorem redges_snoc (t u r : Nat) (rs : List Nat) : redges t u (rs ++ [r]) = redges t u rs ++ (if r = u ∧ r ≠ t then [t] else []) := by
  unfold redges
  rw [List.filter_append, List.map_append]
  by_cases h1 : r = u ∧ r ≠ t
  · rw [if_pos h1]
    have : (decide (r = u ∧ r ≠ t)) = true := decide_eq_true h1
    simp only [List.filter_cons, this, List.filter_nil]; rfl
  · rw [if_neg h1]
    have : (decide (r = u ∧ r ≠ t)) = false := decide_eq_false h1
    simp only [List.filter_cons, this, List.filter_nil]; rfl
theorem take_snoc {l : List Nat} {k : Nat} (hk : k < l.length) : l.take (k + 1) = l.take k ++ [l.getD k 0] := by
  rw [List.take_add_one]
  simp [hk]
end
end Go.Proofs.Qxb6602549a
