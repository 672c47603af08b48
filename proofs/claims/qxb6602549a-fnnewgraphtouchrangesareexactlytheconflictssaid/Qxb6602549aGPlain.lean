/-
  What newGraph computes, in plain functions, and how rows stand for lists.
-/
import Derived.Test.Qxb6602549aMulti
namespace Go.Proofs.Qxb6602549a
open Go Go.RowKit
set_option linter.unusedSimpArgs false
set_option linter.unusedVariables false

section
variable (h : HRec)
/-- operation p touches an item, for a transaction that does not abort -/
def lvB (p : Nat) : Bool := decide (0 ≤ h.I p) && !h.B (h.T p)
def itm (p : Nat) : Nat := (h.I p).toNat

def accF (x : Nat) : Nat → List Nat
  | 0 => []
  | p + 1 => if lvB h p = true ∧ h.I p = x then accF x p ++ [h.T p] else accF x p
def wrsF (x : Nat) : Nat → List Nat
  | 0 => []
  | p + 1 => if lvB h p = true ∧ h.I p = x ∧ h.A p = 119 then wrsF x p ++ [h.T p] else wrsF x p
def wrtF (x : Nat) : Nat → Int
  | 0 => -1
  | p + 1 => if lvB h p = true ∧ h.I p = x ∧ h.A p = 119 then h.T p else wrtF x p
def rdsF (x : Nat) : Nat → List Nat
  | 0 => []
  | p + 1 => if lvB h p = true ∧ h.I p = x then (if h.A p = 119 then [] else rdsF x p ++ [h.T p]) else rdsF x p
/-- the edge from the last writer -/
def wedge (p u : Nat) : List Nat := if wrtF h (itm h p) p = u ∧ u ≠ h.T p then [h.T p] else []
/-- the edges from the readers rs -/
def redges (t u : Nat) (rs : List Nat) : List Nat := (rs.filter fun r => r = u ∧ r ≠ t).map fun _ => t
def outF (u : Nat) : Nat → List Nat
  | 0 => []
  | p + 1 => if lvB h p = true then (outF u p ++ wedge h p u) ++ (if h.A p = 119 then redges (h.T p) u (rdsF h (itm h p) p) else []) else outF u p
end

structure Tch where
  item : Nat
  sa : Int
  sw : Int
  pa : Int
  pw : Int
  rf : Bool
  fr : Int
  fs : Bool

def newT (x : Nat) : Tch := ⟨x, -1, -1, 0, 0, false, -2, false⟩
def addSrc (c : Tch) (w : Int) : Tch := { c with fs := if c.fr ≠ -2 ∧ c.fr ≠ w then true else c.fs, fr := w }
def rdT1 (c : Tch) : Tch := if c.sa < 0 then { c with rf := true } else c
def rdT2 (nw : Nat) (c : Tch) : Tch := if c.sw < 0 then { c with sw := nw } else c
def rdT (nw : Nat) (w : Int) (t : Nat) (c : Tch) : Tch :=
  let c3 := { rdT2 nw (rdT1 c) with pw := nw }
  if w = t then c3 else addSrc c3 w
def wrT1 (na : Nat) (c : Tch) : Tch := if c.sa < 0 then { c with sa := (na : Int) + 1 } else c
def wrT (na : Nat) (c : Tch) : Tch := { wrT1 na c with pa := na }

def findT (x : Nat) : List Tch → Nat
  | [] => 0
  | c :: l => if c.item = x then 0 else findT x l + 1
def addT (x : Nat) (l : List Tch) : List Tch := if findT x l < l.length then l else l ++ [newT x]
def setT (g : Tch → Tch) : Nat → List Tch → List Tch
  | _, [] => []
  | 0, c :: l => g c :: l
  | i + 1, c :: l => c :: setT g i l
def opT (h : HRec) (p : Nat) : Tch → Tch := if h.A p = 119 then wrT (accF h (itm h p) p).length else rdT (wrsF h (itm h p) p).length (wrtF h (itm h p) p) (h.T p)
def tchF (h : HRec) (u : Nat) : Nat → List Tch
  | 0 => []
  | p + 1 => if lvB h p = true ∧ h.T p = u then setT (opT h p) (findT (itm h p) (tchF h u p)) (addT (itm h p) (tchF h u p)) else tchF h u p
def finT (h : HRec) (c : Tch) : Tch := { c with sa := if c.sa < 0 then ((accF h c.item h.n).length : Int) else c.sa, sw := if c.sw < 0 then ((wrsF h c.item h.n).length : Int) else c.sw }

theorem setT_length (g : Tch → Tch) : ∀ (i : Nat) (l : List Tch), (setT g i l).length = l.length
  | _, [] => by simp [setT]
  | 0, c :: l => by simp [setT]
  | i + 1, c :: l => by simp [setT, setT_length g i l]
theorem setT_getD (g : Tch → Tch) (z : Tch) : ∀ (i : Nat) (l : List Tch) (k : Nat), (setT g i l).getD k z = if k = i ∧ k < l.length then g (l.getD k z) else l.getD k z
  | _, [], k => by simp [setT]
  | 0, c :: l, 0 => by simp [setT]
  | 0, c :: l, k + 1 => by simp [setT]
  | i + 1, c :: l, 0 => by simp [setT]
  | i + 1, c :: l, k + 1 => by
    have := setT_getD g z i l k
    simp only [setT, List.getD_cons_succ, this, Nat.add_right_cancel_iff, List.length_cons, Nat.add_lt_add_iff_right]
theorem findT_le (x : Nat) : ∀ l : List Tch, findT x l ≤ l.length
  | [] => by simp [findT]
  | c :: l => by
    simp only [findT, List.length_cons]
    split
    · omega
    · have := findT_le x l; omega
theorem findT_item (x : Nat) (z : Tch) : ∀ l : List Tch, findT x l < l.length → (l.getD (findT x l) z).item = x
  | [], h => by simp [findT] at h
  | c :: l, h => by
    simp only [findT] at h ⊢
    split
    · rename_i hc; simpa using hc
    · rename_i hc
      rw [if_neg hc] at h
      simp only [List.getD_cons_succ]
      exact findT_item x z l (by simpa using h)
theorem addT_lt (x : Nat) (l : List Tch) : findT x l < (addT x l).length := by
  unfold addT
  have := findT_le x l
  split
  · assumption
  · simp; omega
theorem addT_length (x : Nat) (l : List Tch) : (addT x l).length ≤ l.length + 1 := by
  unfold addT; split <;> simp
theorem addT_item (x : Nat) (z : Tch) (l : List Tch) : ((addT x l).getD (findT x l) z).item = x := by
  unfold addT
  split
  · rename_i h; exact findT_item x z l h
  · rename_i h
    have : findT x l = l.length := by have := findT_le x l; omega
    rw [this]
    simp [newT]
theorem findT_append (x : Nat) (c : Tch) : ∀ l : List Tch, findT x (l ++ [c]) = if findT x l < l.length then findT x l else (if c.item = x then l.length else l.length + 1)
  | [] => by simp [findT]
  | d :: l => by
    simp only [List.cons_append, findT, List.length_cons]
    by_cases hd : d.item = x
    · simp [hd]
    · simp only [if_neg hd, findT_append x c l]
      by_cases h : findT x l < l.length
      · rw [if_pos h, if_pos (show findT x l + 1 < l.length + 1 by omega)]
      · rw [if_neg h, if_neg (show ¬ findT x l + 1 < l.length + 1 by omega)]
        split <;> rfl
theorem setT_find (g : Tch → Tch) (hg : ∀ c, (g c).item = c.item) (x : Nat) : ∀ (i : Nat) (l : List Tch), findT x (setT g i l) = findT x l
  | _, [] => by simp [setT]
  | 0, c :: l => by simp [setT, findT, hg]
  | i + 1, c :: l => by simp [setT, findT, setT_find g hg x i l]
theorem wrT_item (na : Nat) (c : Tch) : (wrT na c).item = c.item := by unfold wrT wrT1; split <;> rfl
theorem rdT_item (nw : Nat) (w : Int) (t : Nat) (c : Tch) : (rdT nw w t c).item = c.item := by
  have h1 : (rdT1 c).item = c.item := by unfold rdT1; split <;> rfl
  have h2 : (rdT2 nw (rdT1 c)).item = c.item := by unfold rdT2; split <;> exact h1
  unfold rdT addSrc
  split <;> exact h2
theorem opT_item (h : HRec) (p : Nat) (c : Tch) : (opT h p c).item = c.item := by
  unfold opT; split
  · exact wrT_item _ c
  · exact rdT_item _ _ _ c

/-- where t's touch of x lies after p operations -/
def idxL (l : List Tch) (x : Nat) : Option Int := if findT x l < l.length then some (findT x l : Int) else none
def idxF (h : HRec) (p t x : Nat) : Option Int := idxL (tchF h t p) x

theorem idxF_step (h : HRec) (p t x : Nat) : idxF h (p + 1) t x = if lvB h p = true ∧ h.T p = t ∧ itm h p = x then some (findT x (tchF h t p) : Int) else idxF h p t x := by
  unfold idxF
  by_cases h1 : lvB h p = true ∧ h.T p = t
  · have e : tchF h t (p + 1) = setT (opT h p) (findT (itm h p) (tchF h t p)) (addT (itm h p) (tchF h t p)) := by simp only [tchF]; rw [if_pos h1]
    rw [e]
    unfold idxL
    rw [setT_find _ (opT_item h p), setT_length]
    have hle := findT_le x (tchF h t p)
    have hle2 := findT_le (itm h p) (tchF h t p)
    by_cases h2 : itm h p = x
    · subst h2
      rw [if_pos (⟨h1.1, h1.2, rfl⟩ : lvB h p = true ∧ h.T p = t ∧ itm h p = itm h p)]
      unfold addT
      by_cases h3 : findT (itm h p) (tchF h t p) < (tchF h t p).length
      · simp only [if_pos h3]
      · simp only [if_neg h3, findT_append]
        have : findT (itm h p) (tchF h t p) = (tchF h t p).length := by omega
        simp [newT, this]
    · have h2' : ¬ (lvB h p = true ∧ h.T p = t ∧ itm h p = x) := fun hh => h2 hh.2.2
      simp only [if_neg h2']
      unfold addT
      by_cases h3 : findT (itm h p) (tchF h t p) < (tchF h t p).length
      · simp only [if_pos h3]
      · simp only [if_neg h3, findT_append]
        by_cases h4 : findT x (tchF h t p) < (tchF h t p).length
        · simp only [if_pos h4, List.length_append, List.length_singleton]
          rw [if_pos (by omega)]
        · simp only [if_neg h4, newT, h2, if_false, List.length_append, List.length_singleton]
          rw [if_neg (by omega)]
  · have e : tchF h t (p + 1) = tchF h t p := by simp only [tchF]; rw [if_neg h1]
    rw [e, if_neg (fun hh => h1 ⟨hh.1, hh.2.1⟩)]

/-! ### Lengths -/
theorem accF_length (h : HRec) (x : Nat) : ∀ p, (accF h x p).length ≤ p
  | 0 => by simp [accF]
  | p + 1 => by
    have := accF_length h x p
    simp only [accF]; split <;> simp <;> omega
theorem wrsF_length (h : HRec) (x : Nat) : ∀ p, (wrsF h x p).length ≤ p
  | 0 => by simp [wrsF]
  | p + 1 => by
    have := wrsF_length h x p
    simp only [wrsF]; split <;> simp <;> omega
theorem rdsF_length (h : HRec) (x : Nat) : ∀ p, (rdsF h x p).length ≤ p
  | 0 => by simp [rdsF]
  | p + 1 => by
    have := rdsF_length h x p
    simp only [rdsF]; split
    · split <;> simp; omega
    · omega
theorem tchF_length (h : HRec) (u : Nat) : ∀ p, (tchF h u p).length ≤ p
  | 0 => by simp [tchF]
  | p + 1 => by
    have := tchF_length h u p
    have h2 := addT_length (itm h p) (tchF h u p)
    simp only [tchF]; split
    · rw [setT_length]; omega
    · omega
theorem redges_length (t u : Nat) (rs : List Nat) : (redges t u rs).length ≤ rs.length := by
  unfold redges; rw [List.length_map]; exact List.length_filter_le _ _
theorem wedge_length (h : HRec) (p u : Nat) : (wedge h p u).length ≤ 1 := by unfold wedge; split <;> simp
theorem outF_length (h : HRec) (u : Nat) (hn : h.n ≤ 4096) : ∀ p, p ≤ h.n → (outF h u p).length ≤ 4097 * p
  | 0, _ => by simp [outF]
  | p + 1, hp => by
    have h1 := outF_length h u hn p (by omega)
    have h2 := wedge_length h p u
    have h3 := redges_length (h.T p) u (rdsF h (itm h p) p)
    have h4 := rdsF_length h (itm h p) p
    by_cases hl : lvB h p = true
    · have e : outF h u (p + 1) = (outF h u p ++ wedge h p u) ++ (if h.A p = 119 then redges (h.T p) u (rdsF h (itm h p) p) else []) := by simp only [outF]; rw [if_pos hl]
      have e2 : (if h.A p = 119 then redges (h.T p) u (rdsF h (itm h p) p) else []).length ≤ p := by
        by_cases ha : h.A p = 119
        · rw [if_pos ha]; omega
        · rw [if_neg ha]; exact Nat.zero_le _
      rw [e, List.length_append, List.length_append]
      omega
    · have e : outF h u (p + 1) = outF h u p := by simp only [outF]; rw [if_neg hl]
      rw [e]; omega

/-! ### Rows that stand for lists -/
structure RepI (r : Row) (l : List Nat) : Prop where
  len : r.len = l.length
  c : ∀ i, i < l.length → r.c i = .int .i32 (l.getD i 0 : Nat)

def tcell (c : Tch) : List Value := [.int .i32 c.item, .int .i32 c.sa, .int .i32 c.sw, .int .i32 c.pa, .int .i32 c.pw, .bool c.rf, .int .i32 c.fr, .bool c.fs]
structure RepT (r : Row) (l : List Tch) : Prop where
  len : r.len = l.length
  c : ∀ i k, i < l.length → k < 8 → r.c (i * 8 + k) = cellsF (tcell (l.getD i (newT 0))) k

theorem RepI.nil : RepI nilRow [] := ⟨rfl, fun i hi => by simp at hi⟩
theorem RepT.nil : RepT nilRow [] := ⟨rfl, fun i k hi => by simp at hi⟩
theorem RepI.app {r r' : Row} {l : List Nat} {t : Nat} {tc : Nat → Value} (h : RepI r l) (h1 : r'.len = r.len + 1) (h2 : r'.c = appC 1 r tc) (h3 : tc 0 = .int .i32 t) : RepI r' (l ++ [t]) := by
  refine ⟨by rw [h1, h.len]; simp, fun i hi => ?_⟩
  rw [h2]
  unfold appC
  have hl := h.len
  by_cases h4 : i < l.length
  · rw [if_pos (by omega), h.c i h4]
    simp [List.getElem?_append_left h4]
  · have h5 : i = l.length := by simp at hi; omega
    subst h5
    rw [if_neg (by omega), show l.length - r.len * 1 = 0 by omega, h3]
    simp
theorem RepT.app {r r' : Row} {l : List Tch} {c : Tch} (h : RepT r l) (h1 : r'.len = r.len + 1) (h2 : r'.c = appC 8 r (cellsF (tcell c))) : RepT r' (l ++ [c]) := by
  refine ⟨by rw [h1, h.len]; simp, fun i k hi hk => ?_⟩
  rw [h2]
  unfold appC
  have hl := h.len
  by_cases h4 : i < l.length
  · rw [if_pos (by omega), h.c i k h4 hk]
    simp [List.getElem?_append_left h4]
  · have h5 : i = l.length := by simp at hi; omega
    subst h5
    rw [if_neg (by omega), show l.length * 8 + k - r.len * 8 = k by omega]
    simp
theorem RepI.cut0 {r : Row} {b : Option Nat} {c : Nat} : RepI ⟨b, 0, c, r.c⟩ [] := ⟨rfl, fun i hi => by simp at hi⟩

theorem RepT.set {r : Row} {l : List Tch} {i k : Nat} {v : Value} {g : Tch → Tch} (h : RepT r l) (hi : i < l.length) (hk : k < 8) (hg : ∀ q, q < 8 → cellsF (tcell (g (l.getD i (newT 0)))) q = if q = k then v else cellsF (tcell (l.getD i (newT 0))) q) :
    RepT ⟨r.blk, r.len, r.cap, setF r.c (i * 8 + k) v⟩ (setT g i l) := by
  refine ⟨by rw [setT_length]; exact h.len, fun a q ha hq => ?_⟩
  rw [setT_length] at ha
  rw [setT_getD]
  show setF r.c (i * 8 + k) v (a * 8 + q) = _
  unfold setF
  by_cases h1 : a = i
  · subst h1
    rw [if_pos (⟨rfl, ha⟩ : a = a ∧ a < l.length), hg q hq]
    by_cases h2 : q = k
    · subst h2; simp
    · rw [if_neg (by omega), if_neg h2]; exact h.c a q ha hq
  · have h3 : ¬ (a = i ∧ a < l.length) := fun hh => h1 hh.1
    rw [if_neg (by omega), if_neg h3]; exact h.c a q ha hq

theorem setT_setT (f g : Tch → Tch) : ∀ (i : Nat) (l : List Tch), setT f i (setT g i l) = setT (fun c => f (g c)) i l
  | _, [] => by simp [setT]
  | 0, c :: l => by simp [setT]
  | i + 1, c :: l => by simp [setT, setT_setT f g i l]
theorem setT_id (g : Tch → Tch) (z : Tch) : ∀ (i : Nat) (l : List Tch), g (l.getD i z) = l.getD i z → setT g i l = l
  | _, [], _ => by simp [setT]
  | 0, c :: l, h => by simp at h; simp [setT, h]
  | i + 1, c :: l, h => by
    simp only [List.getD_cons_succ] at h
    simp [setT, setT_id g z i l h]
theorem setT_congr (f g : Tch → Tch) (z : Tch) : ∀ (i : Nat) (l : List Tch), f (l.getD i z) = g (l.getD i z) → setT f i l = setT g i l
  | _, [], _ => by simp [setT]
  | 0, c :: l, h => by simp at h; simp [setT, h]
  | i + 1, c :: l, h => by
    simp only [List.getD_cons_succ] at h
    simp [setT, setT_congr f g z i l h]

/-- headers of rows -/
def hdr (R : Nat → Row) (x : Nat) : Value := (R x).val
theorem hdr_upd (R : Nat → Row) (x : Nat) (r : Row) (k : Nat) : setF (hdr R) x r.val k = hdr (updR R x r) k := by
  unfold setF hdr updR
  by_cases h : k = x
  · simp [h]
  · simp [h]

def itF (wr : Nat → Int) (R : Nat → Row) (i : Nat) : Value := if i % 2 = 0 then .int .i32 (wr (i / 2)) else (R (i / 2)).val
theorem itF_0 (wr : Nat → Int) (R : Nat → Row) (x : Nat) : itF wr R (x * 2) = .int .i32 (wr x) := by unfold itF; rw [if_pos (by omega), show x * 2 / 2 = x by omega]
theorem itF_1 (wr : Nat → Int) (R : Nat → Row) (x : Nat) : itF wr R (x * 2 + 1) = (R x).val := by unfold itF; rw [if_neg (by omega), show (x * 2 + 1) / 2 = x by omega]
def updI (wr : Nat → Int) (x : Nat) (v : Int) : Nat → Int := fun y => if y = x then v else wr y
theorem itF_wr (wr : Nat → Int) (R : Nat → Row) (x : Nat) (v : Int) (k : Nat) : setF (itF wr R) (x * 2) (.int .i32 v) k = itF (updI wr x v) R k := by
  unfold setF itF updI
  by_cases h1 : k = x * 2
  · subst h1; rw [if_pos rfl, if_pos (by omega), if_pos (by omega)]
  · rw [if_neg h1]
    by_cases h2 : k % 2 = 0
    · rw [if_pos h2, if_pos h2, if_neg (by omega)]
    · rw [if_neg h2, if_neg h2]
theorem itF_rd (wr : Nat → Int) (R : Nat → Row) (x : Nat) (r : Row) (k : Nat) : setF (itF wr R) (x * 2 + 1) r.val k = itF wr (updR R x r) k := by
  unfold setF itF
  by_cases h1 : k = x * 2 + 1
  · subst h1; rw [if_pos rfl, if_neg (by omega), show (x * 2 + 1) / 2 = x by omega, updR_self]
  · rw [if_neg h1]
    by_cases h2 : k % 2 = 0
    · rw [if_pos h2, if_pos h2]
    · rw [if_neg h2, if_neg h2, updR_ne R r (by omega)]

/-! ### The state of newGraph -/
structure NG where
  Ra : Nat → Row
  Rw : Nat → Row
  Rt : Nat → Row
  Ro : Nat → Row
  Rr : Nat → Row
  wr : Nat → Int
  f : Nat → Option Int

/-- what the rows stand for: accesses after pa operations, all else after p -/
structure NInv (h : HRec) (g : NG) (pa p : Nat) : Prop where
  acc : ∀ x, x < h.m → RepI (g.Ra x) (accF h x pa)
  wrs : ∀ x, x < h.m → RepI (g.Rw x) (wrsF h x p)
  rds : ∀ x, x < h.m → RepI (g.Rr x) (rdsF h x p)
  wrt : ∀ x, x < h.m → g.wr x = wrtF h x p
  out : ∀ t, t < h.nt → RepI (g.Ro t) (outF h t p)
  tch : ∀ t, t < h.nt → RepT (g.Rt t) (tchF h t p)
  idx : ∀ t x, t < h.nt → x < h.m → g.f (keyOf t x) = idxF h p t x

theorem wrtF_rng {h : HRec} (ho : HOK h) (x : Nat) : ∀ p, p ≤ h.n → wrtF h x p = -1 ∨ ∃ u, u < h.nt ∧ wrtF h x p = (u : Nat)
  | 0, _ => .inl rfl
  | p + 1, hp => by
    simp only [wrtF]
    split
    · exact .inr ⟨h.T p, (ho.ok p (by omega)).1, rfl⟩
    · exact wrtF_rng ho x p (by omega)
theorem rdsF_rng {h : HRec} (ho : HOK h) (x : Nat) : ∀ p, p ≤ h.n → ∀ r, r ∈ rdsF h x p → r < h.nt
  | 0, _, r, hr => by simp [rdsF] at hr
  | p + 1, hp, r, hr => by
    have ih := rdsF_rng ho x p (by omega)
    simp only [rdsF] at hr
    split at hr
    · split at hr
      · simp at hr
      · simp only [List.mem_append, List.mem_singleton] at hr
        rcases hr with hr | rfl
        · exact ih r hr
        · exact (ho.ok p (by omega)).1
    · exact ih r hr
end Go.Proofs.Qxb6602549a
