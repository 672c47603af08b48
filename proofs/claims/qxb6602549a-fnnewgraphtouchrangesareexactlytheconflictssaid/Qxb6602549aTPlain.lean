/-
  One transaction's touch of one item, in plain terms; the model of touches.
-/
import Derived.Test.Qxb6602549aNGc
namespace Go.Proofs.Qxb6602549a
open Go Go.RowKit
set_option linter.unusedSimpArgs false
set_option linter.unusedVariables false

/-- the touch of t on x after p operations -/
def oneT (h : HRec) (t x : Nat) : Nat → Option Tch
  | 0 => none
  | p + 1 => if lvB h p = true ∧ h.T p = t ∧ itm h p = x then some (opT h p ((oneT h t x p).getD (newT x))) else oneT h t x p

theorem addT_found {x : Nat} {l : List Tch} (h : findT x l < l.length) : addT x l = l := by unfold addT; rw [if_pos h]
theorem addT_fresh {x : Nat} {l : List Tch} (h : ¬ findT x l < l.length) : addT x l = l ++ [newT x] := by unfold addT; rw [if_neg h]

theorem tchF_one (h : HRec) (t x : Nat) : ∀ p, oneT h t x p = if findT x (tchF h t p) < (tchF h t p).length then some ((tchF h t p).getD (findT x (tchF h t p)) (newT 0)) else none
  | 0 => by simp [oneT, tchF]
  | p + 1 => by
    have ih := tchF_one h t x p
    generalize hl : tchF h t p = l at ih
    have hle := findT_le x l
    have hle2 := findT_le (itm h p) l
    by_cases h1 : lvB h p = true ∧ h.T p = t
    · have e : tchF h t (p + 1) = setT (opT h p) (findT (itm h p) l) (addT (itm h p) l) := by rw [tchF, if_pos h1, hl]
      rw [e, setT_find _ (opT_item h p), setT_length, oneT]
      by_cases h2 : itm h p = x
      · subst h2
        rw [if_pos ⟨h1.1, h1.2, rfl⟩]
        by_cases h3 : findT (itm h p) l < l.length
        · rw [addT_found h3, if_pos h3, setT_getD, if_pos ⟨rfl, h3⟩, ih, if_pos h3]; rfl
        · have h4 : findT (itm h p) l = l.length := by omega
          rw [addT_fresh h3, findT_append, if_neg h3]
          simp only [newT, if_true]
          rw [if_pos (by simp), setT_getD, if_pos ⟨h4.symm, by simp⟩, ih, if_neg h3]
          simp
      · have h2' : ¬ (lvB h p = true ∧ h.T p = t ∧ itm h p = x) := fun hh => h2 hh.2.2
        rw [if_neg h2', ih]
        by_cases h5 : findT (itm h p) l < l.length
        · rw [addT_found h5]
          by_cases h3 : findT x l < l.length
          · rw [if_pos h3, if_pos h3, setT_getD]
            have h6 : ¬ (findT x l = findT (itm h p) l ∧ findT x l < l.length) := fun hh => by
              have g1 := findT_item x (newT 0) l h3
              have g2 := findT_item (itm h p) (newT 0) l h5
              rw [hh.1] at g1
              exact h2 (g2.symm.trans g1)
            rw [if_neg h6]
          · rw [if_neg h3, if_neg h3]
        · rw [addT_fresh h5, findT_append]
          by_cases h3 : findT x l < l.length
          · simp only [if_pos h3]
            rw [if_pos (by simp; omega), setT_getD]
            have h6 : ¬ (findT x l = findT (itm h p) l ∧ findT x l < (l ++ [newT (itm h p)]).length) := fun hh => by omega
            rw [if_neg h6]
            congr 1
            simp [List.getElem?_append_left h3]
          · simp only [if_neg h3]
            have h7 : ¬ (newT (itm h p)).item = x := h2
            rw [if_neg h7, if_neg (by simp)]
    · have e : tchF h t (p + 1) = l := by rw [tchF, if_neg h1, hl]
      have h1' : ¬ (lvB h p = true ∧ h.T p = t ∧ itm h p = x) := fun hh => h1 ⟨hh.1, hh.2.1⟩
      rw [e, oneT, if_neg h1', ih]

/-! ### The items a transaction touches, in the order of first access -/
def xsF (h : HRec) (t : Nat) : Nat → List Nat
  | 0 => []
  | p + 1 => if lvB h p = true ∧ h.T p = t ∧ ¬ itm h p ∈ xsF h t p then xsF h t p ++ [itm h p] else xsF h t p

theorem findT_mem (x : Nat) : ∀ l : List Tch, findT x l < l.length ↔ x ∈ l.map (·.item)
  | [] => by simp [findT]
  | c :: l => by
    simp only [findT, List.map_cons, List.mem_cons, List.length_cons]
    by_cases h1 : c.item = x
    · simp [h1]
    · have h2 : ¬ x = c.item := fun hh => h1 hh.symm
      rw [if_neg h1]
      simp only [h2, false_or]
      rw [← findT_mem x l]; omega
theorem setT_map (g : Tch → Tch) (hg : ∀ c, (g c).item = c.item) : ∀ (i : Nat) (l : List Tch), (setT g i l).map (·.item) = l.map (·.item)
  | _, [] => by simp [setT]
  | 0, c :: l => by simp [setT, hg]
  | i + 1, c :: l => by simp [setT, setT_map g hg i l]
theorem tchF_items (h : HRec) (t : Nat) : ∀ p, (tchF h t p).map (·.item) = xsF h t p
  | 0 => rfl
  | p + 1 => by
    have ih := tchF_items h t p
    by_cases h1 : lvB h p = true ∧ h.T p = t
    · have e : tchF h t (p + 1) = setT (opT h p) (findT (itm h p) (tchF h t p)) (addT (itm h p) (tchF h t p)) := by rw [tchF, if_pos h1]
      rw [e, setT_map _ (opT_item h p), xsF]
      have hm := findT_mem (itm h p) (tchF h t p)
      rw [ih] at hm
      by_cases h2 : itm h p ∈ xsF h t p
      · rw [addT_found (hm.2 h2), if_neg (fun hh => hh.2.2 h2), ih]
      · rw [addT_fresh (fun hh => h2 (hm.1 hh)), if_pos ⟨h1.1, h1.2, h2⟩, List.map_append, ih]; rfl
    · have e : tchF h t (p + 1) = tchF h t p := by rw [tchF, if_neg h1]
      rw [e, xsF, if_neg (fun hh => h1 ⟨hh.1, hh.2.1⟩), ih]
theorem xsF_mem (h : HRec) (t x : Nat) : ∀ p, x ∈ xsF h t p ↔ ∃ q, q < p ∧ lvB h q = true ∧ h.T q = t ∧ itm h q = x
  | 0 => by simp [xsF]
  | p + 1 => by
    have ih := xsF_mem h t x p
    rw [xsF]
    by_cases h1 : lvB h p = true ∧ h.T p = t ∧ ¬ itm h p ∈ xsF h t p
    · rw [if_pos h1, List.mem_append, ih, List.mem_singleton]
      constructor
      · rintro (⟨q, g1, g2⟩ | rfl)
        · exact ⟨q, by omega, g2⟩
        · exact ⟨p, by omega, h1.1, h1.2.1, rfl⟩
      · rintro ⟨q, g1, g2, g3, g4⟩
        by_cases h2 : q = p
        · subst h2; exact .inr g4.symm
        · exact .inl ⟨q, by omega, g2, g3, g4⟩
    · rw [if_neg h1, ih]
      constructor
      · rintro ⟨q, g1, g2⟩
        exact ⟨q, by omega, g2⟩
      · rintro ⟨q, g1, g2, g3, g4⟩
        by_cases h2 : q = p
        · subst h2
          have h3 : itm h q ∈ xsF h t q := by
            by_cases h4 : itm h q ∈ xsF h t q
            · exact h4
            · exact absurd ⟨g2, g3, h4⟩ h1
          rw [g4] at h3
          exact ih.1 h3
        · exact ⟨q, by omega, g2, g3, g4⟩
theorem xsF_nodup (h : HRec) (t : Nat) : ∀ p, (xsF h t p).Nodup
  | 0 => by simp [xsF]
  | p + 1 => by
    have ih := xsF_nodup h t p
    rw [xsF]
    by_cases h1 : lvB h p = true ∧ h.T p = t ∧ ¬ itm h p ∈ xsF h t p
    · rw [if_pos h1]
      refine List.nodup_append.2 ⟨ih, by simp, fun a ha b hb => ?_⟩
      rw [List.mem_singleton.1 hb]
      exact fun hh => h1.2.2 (hh ▸ ha)
    · rw [if_neg h1]; exact ih
theorem findT_at (z : Tch) : ∀ (l : List Tch) (i : Nat), i < l.length → (l.map (·.item)).Nodup → findT (l.getD i z).item l = i
  | [], i, hi, _ => by simp at hi
  | c :: l, 0, _, _ => by simp [findT]
  | c :: l, i + 1, hi, hn => by
    simp only [List.map_cons, List.nodup_cons] at hn
    have ih := findT_at z l i (by simpa using hi) hn.2
    simp only [List.getD_cons_succ, findT]
    have h1 : ¬ c.item = (l.getD i z).item := fun hh => by
      apply hn.1
      rw [hh]
      have : l.getD i z = l[i]'(by simpa using hi) := by simp [List.getD, show i < l.length by simpa using hi]
      rw [this]
      exact List.mem_map.2 ⟨_, List.getElem_mem _, rfl⟩
    rw [if_neg h1, ih]

/-- the i-th touch of t is the touch of its item -/
theorem tchF_at (h : HRec) (t p i : Nat) (hi : i < (tchF h t p).length) : oneT h t ((tchF h t p).getD i (newT 0)).item p = some ((tchF h t p).getD i (newT 0)) := by
  have hn : ((tchF h t p).map (·.item)).Nodup := by rw [tchF_items]; exact xsF_nodup h t p
  have e := findT_at (newT 0) (tchF h t p) i hi hn
  rw [tchF_one, e, if_pos hi]

/-! ### The model of a touch -/
structure MS where
  fw : Int
  lw : Int
  fr : Int
  lr : Int
  sn : Bool
  rf : Bool
  fsrc : Int
  frm : Int
  fs : Bool

structure MSome (c : Tch) (m : MS) : Prop where
  sn : m.sn = true
  fw : m.fw = -1 ∨ 0 ≤ m.fw
  fr : m.fr = -1 ∨ 0 ≤ m.fr
  lw : (m.fw = -1 ∧ m.lw = -1) ∨ (0 ≤ m.fw ∧ 0 ≤ m.lw)
  lr : (m.fr = -1 ∧ m.lr = -1) ∨ (0 ≤ m.fr ∧ 0 ≤ m.lr)
  sa : c.sa = if m.fw < 0 then -1 else m.fw + 1
  sw : c.sw = m.fr
  pa : c.pa = if m.lw < 0 then 0 else m.lw
  pw : c.pw = if m.lr < 0 then 0 else m.lr
  rf : c.rf = m.rf
  fe : c.fr = m.frm
  fs : c.fs = m.fs
  one : m.fs = false → m.frm = m.fsrc
  two : m.frm = -2 ↔ m.fsrc = -2
  rfw : c.sa < 0 → c.rf = true

def ms0 : MS := ⟨-1, -1, -1, -1, false, false, -2, -2, false⟩
def MRel (o : Option Tch) (m : MS) : Prop :=
  match o with
  | none => m = ms0
  | some c => MSome c m

def msW (na : Nat) (m : MS) : MS := { m with fw := if m.fw < 0 then na else m.fw, lw := na, sn := true, rf := if m.sn = true then m.rf else false }
def msR (nw : Nat) (w : Int) (t : Nat) (m : MS) : MS :=
  { m with fr := if m.fr < 0 then nw else m.fr, lr := nw, sn := true, rf := if m.sn = true then m.rf else true,
           fsrc := if w = t then m.fsrc else if m.fsrc = -2 then w else m.fsrc,
           fs := if w = t then m.fs else if m.fsrc = -2 then m.fs else if w = m.fsrc then m.fs else true,
           frm := if w = t then m.frm else w }

theorem MRel.write {o : Option Tch} {m : MS} {na x : Nat} (hr : MRel o m) : MRel (some (wrT na (o.getD (newT x)))) (msW na m) := by
  cases o with
  | none =>
    have hm : m = ms0 := hr
    subst hm
    refine ⟨rfl, .inr ?_, .inl rfl, .inr ⟨?_, ?_⟩, .inl ⟨rfl, rfl⟩, ?_, rfl, ?_, rfl, rfl, rfl, rfl, fun _ => rfl, Iff.rfl, ?_⟩
    · show (0 : Int) ≤ (na : Int); omega
    · show (0 : Int) ≤ (na : Int); omega
    · show (0 : Int) ≤ (na : Int); omega
    · show (na : Int) + 1 = if (na : Int) < 0 then -1 else (na : Int) + 1
      rw [if_neg (by omega)]
    · show (na : Int) = if (na : Int) < 0 then 0 else (na : Int)
      rw [if_neg (by omega)]
    · intro hh
      have hh' : (na : Int) + 1 < 0 := hh
      omega
  | some c =>
    have hm : MSome c m := hr
    have hsa := hm.sa
    have hfw := hm.fw
    by_cases h1 : m.fw < 0
    · have hc : c.sa < 0 := by rw [hsa, if_pos h1]; decide
      have e1 : wrT na c = { c with sa := (na : Int) + 1, pa := na } := by unfold wrT wrT1; rw [if_pos hc]
      have e2 : msW na m = { m with fw := na, lw := na, sn := true, rf := m.rf } := by unfold msW; rw [if_pos h1, if_pos hm.sn]
      show MSome (wrT na c) (msW na m)
      rw [e1, e2]
      refine ⟨rfl, .inr ?_, hm.fr, .inr ⟨?_, ?_⟩, hm.lr, ?_, hm.sw, ?_, hm.pw, hm.rf, hm.fe, hm.fs, hm.one, hm.two, ?_⟩
      · show (0 : Int) ≤ (na : Int); omega
      · show (0 : Int) ≤ (na : Int); omega
      · show (0 : Int) ≤ (na : Int); omega
      · show (na : Int) + 1 = if (na : Int) < 0 then -1 else (na : Int) + 1
        rw [if_neg (by omega)]
      · show (na : Int) = if (na : Int) < 0 then 0 else (na : Int)
        rw [if_neg (by omega)]
      · intro hh
        have hh' : (na : Int) + 1 < 0 := hh
        omega
    · have hc : ¬ c.sa < 0 := by rw [hsa, if_neg h1]; omega
      have e1 : wrT na c = { c with pa := na } := by unfold wrT wrT1; rw [if_neg hc]
      have e2 : msW na m = { m with lw := na, sn := true, rf := m.rf } := by unfold msW; rw [if_neg h1, if_pos hm.sn]
      show MSome (wrT na c) (msW na m)
      rw [e1, e2]
      refine ⟨rfl, hm.fw, hm.fr, .inr ⟨?_, ?_⟩, hm.lr, hm.sa, hm.sw, ?_, hm.pw, hm.rf, hm.fe, hm.fs, hm.one, hm.two, hm.rfw⟩
      · show 0 ≤ m.fw; omega
      · show (0 : Int) ≤ (na : Int); omega
      · show (na : Int) = if (na : Int) < 0 then 0 else (na : Int)
        rw [if_neg (by omega)]

theorem MRel.read {o : Option Tch} {m : MS} {nw x t : Nat} {w : Int} (hw : -1 ≤ w) (hr : MRel o m) : MRel (some (rdT nw w t (o.getD (newT x)))) (msR nw w t m) := by
  have key : ∀ c m', MSome c m' → c.sa < 0 ∨ 0 ≤ c.sa := fun c m' _ => by omega
  cases o with
  | none =>
    have hm : m = ms0 := hr
    subst hm
    have e0 : rdT2 nw (rdT1 (newT x)) = { newT x with rf := true, sw := nw } := rfl
    show MSome (rdT nw w t (newT x)) (msR nw w t ms0)
    unfold rdT msR
    rw [e0]
    by_cases h1 : w = t
    · simp only [if_pos h1]
      refine ⟨rfl, .inl rfl, .inr ?_, .inl ⟨rfl, rfl⟩, .inr ⟨?_, ?_⟩, rfl, rfl, rfl, ?_, rfl, rfl, rfl, fun _ => rfl, Iff.rfl, fun _ => rfl⟩
      · show (0 : Int) ≤ (nw : Int); omega
      · show (0 : Int) ≤ (nw : Int); omega
      · show (0 : Int) ≤ (nw : Int); omega
      · show (nw : Int) = if (nw : Int) < 0 then 0 else (nw : Int)
        rw [if_neg (by omega)]
    · simp only [if_neg h1]
      refine ⟨rfl, .inl rfl, .inr ?_, .inl ⟨rfl, rfl⟩, .inr ⟨?_, ?_⟩, rfl, rfl, rfl, ?_, rfl, rfl, rfl, fun _ => rfl, ?_, fun _ => rfl⟩
      · show (0 : Int) ≤ (nw : Int); omega
      · show (0 : Int) ≤ (nw : Int); omega
      · show (0 : Int) ≤ (nw : Int); omega
      · show (nw : Int) = if (nw : Int) < 0 then 0 else (nw : Int)
        rw [if_neg (by omega)]
      · show w = -2 ↔ w = -2
        exact Iff.rfl
  | some c =>
    have hm : MSome c m := hr
    have hrf1 : (rdT1 c).rf = m.rf ∧ (rdT1 c).sa = c.sa ∧ (rdT1 c).sw = c.sw ∧ (rdT1 c).pa = c.pa ∧ (rdT1 c).fr = c.fr ∧ (rdT1 c).fs = c.fs ∧ ((rdT1 c).sa < 0 → (rdT1 c).rf = true) := by
      unfold rdT1
      by_cases h1 : c.sa < 0
      · rw [if_pos h1]; exact ⟨(hm.rfw h1).symm.trans hm.rf, rfl, rfl, rfl, rfl, rfl, fun _ => rfl⟩
      · rw [if_neg h1]; exact ⟨hm.rf, rfl, rfl, rfl, rfl, rfl, hm.rfw⟩
    obtain ⟨r1, r2, r3, r4, r5, r6, r7⟩ := hrf1
    have hd2 : (rdT2 nw (rdT1 c)).rf = m.rf ∧ (rdT2 nw (rdT1 c)).sa = c.sa ∧ (rdT2 nw (rdT1 c)).sw = (if m.fr < 0 then (nw : Int) else m.fr) ∧ (rdT2 nw (rdT1 c)).pa = c.pa ∧ (rdT2 nw (rdT1 c)).fr = c.fr ∧ (rdT2 nw (rdT1 c)).fs = c.fs ∧ ((rdT2 nw (rdT1 c)).sa < 0 → (rdT2 nw (rdT1 c)).rf = true) := by
      unfold rdT2
      by_cases h1 : (rdT1 c).sw < 0
      · rw [if_pos h1]
        rw [r3, hm.sw] at h1
        rw [if_pos h1]
        exact ⟨r1, r2, rfl, r4, r5, r6, r7⟩
      · rw [if_neg h1]
        have h2 := h1
        rw [r3, hm.sw] at h2
        rw [if_neg h2]
        exact ⟨r1, r2, r3.trans hm.sw, r4, r5, r6, r7⟩
    obtain ⟨q1, q2, q3, q4, q5, q6, q7⟩ := hd2
    show MSome (rdT nw w t c) (msR nw w t m)
    unfold rdT
    generalize rdT2 nw (rdT1 c) = d at q1 q2 q3 q4 q5 q6 q7
    have hfr := hm.fr
    have hlr : (0 : Int) ≤ (if m.fr < 0 then (nw : Int) else m.fr) ∧ (0 : Int) ≤ (nw : Int) := by
      refine ⟨?_, by omega⟩
      split <;> omega
    have hpw : (nw : Int) = if (nw : Int) < 0 then 0 else (nw : Int) := by rw [if_neg (by omega)]
    have hrf : m.rf = if m.sn = true then m.rf else true := by rw [if_pos hm.sn]
    by_cases h1 : w = t
    · have e2 : msR nw w t m = { m with fr := if m.fr < 0 then (nw : Int) else m.fr, lr := nw, sn := true, rf := if m.sn = true then m.rf else true } := by unfold msR; simp only [if_pos h1]
      rw [e2]
      simp only [if_pos h1]
      exact ⟨rfl, hm.fw, .inr hlr.1, hm.lw, .inr hlr, q2.trans hm.sa, q3, q4.trans hm.pa, hpw, q1.trans hrf, q5.trans hm.fe, q6.trans hm.fs, hm.one, hm.two, q7⟩
    · have e2 : msR nw w t m = { m with fr := if m.fr < 0 then (nw : Int) else m.fr, lr := nw, sn := true, rf := if m.sn = true then m.rf else true, fsrc := if m.fsrc = -2 then w else m.fsrc, fs := if m.fsrc = -2 then m.fs else if w = m.fsrc then m.fs else true, frm := w } := by unfold msR; simp only [if_neg h1]
      rw [e2]
      simp only [if_neg h1]
      unfold addSrc
      refine ⟨rfl, hm.fw, .inr hlr.1, hm.lw, .inr hlr, q2.trans hm.sa, q3, q4.trans hm.pa, hpw, q1.trans hrf, rfl, ?_, ?_, ?_, q7⟩
      · show (if d.fr ≠ -2 ∧ d.fr ≠ w then true else d.fs) = if m.fsrc = -2 then m.fs else if w = m.fsrc then m.fs else true
        rw [q5, q6, hm.fe, hm.fs]
        have h2 := hm.two
        have h3 := hm.one
        by_cases h4 : m.fsrc = -2
        · rw [if_pos h4, if_neg (fun hh => hh.1 (h2.2 h4))]
        · have h5 : m.frm ≠ -2 := fun hh => h4 (h2.1 hh)
          rw [if_neg h4]
          cases hfs : m.fs with
          | true =>
            by_cases h6 : m.frm ≠ -2 ∧ m.frm ≠ w
            · rw [if_pos h6]; split <;> rfl
            · rw [if_neg h6]; split <;> rfl
          | false =>
            have h7 := h3 hfs
            by_cases h6 : w = m.fsrc
            · rw [if_pos h6, if_neg (fun hh => hh.2 (by rw [h7, h6]))]
            · rw [if_neg h6, if_pos ⟨h5, fun hh => h6 (by rw [← hh, h7])⟩]
      · show (if m.fsrc = -2 then m.fs else if w = m.fsrc then m.fs else true) = false → w = if m.fsrc = -2 then w else m.fsrc
        by_cases h4 : m.fsrc = -2
        · rw [if_pos h4, if_pos h4]; intro _; rfl
        · rw [if_neg h4, if_neg h4]
          by_cases h6 : w = m.fsrc
          · intro _; exact h6
          · rw [if_neg h6]; intro hh; cases hh
      · show w = -2 ↔ (if m.fsrc = -2 then w else m.fsrc) = -2
        by_cases h4 : m.fsrc = -2
        · rw [if_pos h4]
        · rw [if_neg h4]
          exact ⟨fun hh => by omega, fun hh => absurd hh h4⟩

/-- the last write of x ahead of p, or -1 -/
def llwF (h : HRec) (x : Nat) : Nat → Int
  | 0 => -1
  | p + 1 => if lvB h p = true ∧ h.I p = x ∧ h.A p = 119 then p else llwF h x p
theorem llwF_rng (h : HRec) (x : Nat) : ∀ p, llwF h x p = -1 ∨ ∃ q, q < p ∧ llwF h x p = (q : Nat)
  | 0 => .inl rfl
  | p + 1 => by
    rw [llwF]
    split
    · exact .inr ⟨p, by omega, rfl⟩
    · rcases llwF_rng h x p with h1 | ⟨q, h1, h2⟩
      · exact .inl h1
      · exact .inr ⟨q, by omega, h2⟩
theorem wrtF_llw (h : HRec) (x : Nat) : ∀ p, wrtF h x p = if llwF h x p < 0 then -1 else (h.T (llwF h x p).toNat : Int)
  | 0 => rfl
  | p + 1 => by
    rw [wrtF, llwF]
    by_cases h1 : lvB h p = true ∧ h.I p = x ∧ h.A p = 119
    · rw [if_pos h1, if_pos h1, if_neg (by omega)]
      simp
    · rw [if_neg h1, if_neg h1]; exact wrtF_llw h x p
/-- the readers of x at q with w < q < k -/
def rdR (h : HRec) (x : Nat) (w : Int) : Nat → List Nat
  | 0 => []
  | k + 1 => if w < (k : Int) ∧ lvB h k = true ∧ h.I k = x ∧ h.A k ≠ 119 then rdR h x w k ++ [h.T k] else rdR h x w k
theorem rdR_nil (h : HRec) (x : Nat) (w : Int) : ∀ k : Nat, (k : Int) ≤ w + 1 → rdR h x w k = []
  | 0, _ => rfl
  | k + 1, hk => by
    rw [rdR, if_neg (fun hh => by omega)]
    exact rdR_nil h x w k (by omega)
theorem rdsF_rdR (h : HRec) (x : Nat) : ∀ p, rdsF h x p = rdR h x (llwF h x p) p
  | 0 => rfl
  | p + 1 => by
    have ih := rdsF_rdR h x p
    rw [rdsF, llwF]
    by_cases h1 : lvB h p = true ∧ h.I p = x
    · rw [if_pos h1]
      by_cases h2 : h.A p = 119
      · rw [if_pos h2, if_pos ⟨h1.1, h1.2, h2⟩, rdR_nil]; omega
      · have h5 : llwF h x p < (p : Int) := by rcases llwF_rng h x p with h3 | ⟨q, h3, h4⟩ <;> omega
        rw [if_neg h2, if_neg (fun hh => h2 hh.2.2), rdR, if_pos ⟨h5, h1.1, h1.2, h2⟩, ih]
    · rw [if_neg h1, if_neg (fun hh => h1 ⟨hh.1, hh.2.1⟩), rdR, if_neg (fun hh => h1 ⟨hh.2.1, hh.2.2.1⟩), ih]
end Go.Proofs.Qxb6602549a
