/-
  (*lastEnding).add
-/
import Derived.Test.Qxb6602549aHist
namespace Go.Proofs.Qxb6602549a
open Go Go.RowKit
set_option linter.unusedSimpArgs false
set_option linter.unusedVariables false

theorem set_at {L : List Chunk} {j : Nat} {c c' : Chunk} (hj : L[j]? = some c) : (L.set j c')[j]? = some c' := by
  rw [List.getElem?_set_self (List.getElem?_eq_some_iff.1 hj).1]

theorem setF_same (f : Nat → Value) (i : Nat) (v : Value) : setF f i v i = v := by simp [setF]
theorem setF_ne (f : Nat → Value) {i k : Nat} (v : Value) (h : k ≠ i) : setF f i v k = f k := by simp [setF, h]

theorem LEnd.add_found {l : LEnd} {t e : Int} (h : (l.t0 = t ∧ 0 < l.e0) ∨ (l.t1 = t ∧ 0 < l.e1)) : l.add t e = l := by unfold LEnd.add; rw [if_pos h]
theorem LEnd.add_first {l : LEnd} {t e : Int} (h : ¬ ((l.t0 = t ∧ 0 < l.e0) ∨ (l.t1 = t ∧ 0 < l.e1))) (h0 : l.e0 < e) : l.add t e = ⟨t, l.t0, e, l.e0⟩ := by unfold LEnd.add; rw [if_neg h, if_pos h0]
theorem LEnd.add_second {l : LEnd} {t e : Int} (h : ¬ ((l.t0 = t ∧ 0 < l.e0) ∨ (l.t1 = t ∧ 0 < l.e1))) (h0 : ¬ l.e0 < e) (h1 : l.e1 < e) : l.add t e = ⟨l.t0, t, l.e0, e⟩ := by unfold LEnd.add; rw [if_neg h, if_neg h0, if_pos h1]
theorem LEnd.add_none {l : LEnd} {t e : Int} (h : ¬ ((l.t0 = t ∧ 0 < l.e0) ∨ (l.t1 = t ∧ 0 < l.e1))) (h0 : ¬ l.e0 < e) (h1 : ¬ l.e1 < e) : l.add t e = l := by unfold LEnd.add; rw [if_neg h, if_neg h0, if_neg h1]

theorem setLE_self {f : Nat → Value} {o : Nat} {l : LEnd} (hl : LCells f o l) (k : Nat) : f k = setLE f o l k := by
  unfold setLE
  by_cases h0 : k = o
  · rw [if_pos h0, h0, hl.c0]
  · rw [if_neg h0]
    by_cases h1 : k = o + 1
    · rw [if_pos h1, h1, hl.c1]
    · rw [if_neg h1]
      by_cases h2 : k = o + 2
      · rw [if_pos h2, h2, hl.c2]
      · rw [if_neg h2]
        by_cases h3 : k = o + 3
        · rw [if_pos h3, h3, hl.c3]
        · rw [if_neg h3]

set_option maxHeartbeats 1000000 in
theorem add44 {W0 w : World} {L : List Chunk} {j b n o : Nat} {f : Nat → Value} {l : LEnd} (H : HP W0 w L) (hj : L[j]? = some (Blk b n f)) (ho : o + 4 ≤ n) (hl : LCells f o l) (t e : Int) :
    Calls Try.prog 44 #[.pointer (some ⟨b, o, none⟩), .int .i32 t, .int .i64 e] w fun x w' => x = .returned (.tuple #[]) ∧ HP W0 w' (L.set j (Blk b n (setLE f o (l.add t e)))) := by
  refine calls_CE Try.func44 rfl Try.ntmps44 rfl rfl ?_
  have hsame : HP W0 w (L.set j (Blk b n (setLE f o l))) := H.congr hj (fun k _ => setLE_self hl k)
  refine CE_seq ?_
  refine CE_seq ?_
  refine CE_reg ?_
  refine EL_p (Pu_mv rfl) rfl ?_
  refine EL_nil ?_
  refine CE_block ?_
  refine CE_loop (fun (i : Nat) w' => i ≤ 2 ∧ HP W0 w' L ∧ HP W0 w' (L.set j (Blk b n (setLE f o l))) ∧ (0 < i → ¬ (l.t0 = t ∧ 0 < l.e0)) ∧ (1 < i → ¬ (l.t1 = t ∧ 0 < l.e1)))
    (fun i => [(0, .pointer (some ⟨b, o, none⟩)), (1, .int .i32 t), (2, .int .i64 e), (7, .int .i64 i)]) (fun i => 2 - i) 0 ⟨by omega, H, hsame, by omega, by omega⟩ ⟨rfl, rfl, rfl, rfl, trivial⟩ ?_
  rintro i w2 ⟨hi, H2, Hs2, hf0, hf1⟩
  refine CE_seq ?_
  refine CE_reg ?_
  refine EL_p (Pu_lss rfl rfl) rfl ?_
  refine EL_nil ?_
  refine CE_seq ?_
  refine CE_cP rfl (fun c8 => ?_) (fun c8 => ?_)
  · have hlt : i < 2 := by omega
    have hx0 : f (o + 0 + i * 1) = .int .i32 (if i = 0 then l.t0 else l.t1) := by
      have : i = 0 ∨ i = 1 := by omega
      rcases this with rfl | rfl
      · simpa using hl.c0
      · simpa using hl.c1
    have hx1 : f (o + 2 + i * 1) = .int .i64 (if i = 0 then l.e0 else l.e1) := by
      have : i = 0 ∨ i = 1 := by omega
      rcases this with rfl | rfl
      · simpa using hl.c2
      · simpa using hl.c3
    refine CE_skip ?_
    refine CE_seq ?_
    refine CE_block ?_
    refine CE_seq ?_
    refine CE_reg ?_
    refine EL_p (Pu_mv rfl) rfl ?_
    refine EL_p (Pu_as rfl) rfl ?_
    refine EL_nil ?_
    refine CE_seq ?_
    refine CE_reg ?_
    refine EL_p (Pu_mv rfl) rfl ?_
    refine EL_p (Pu_mv rfl) rfl ?_
    refine EL_p (Pu_nil rfl) rfl ?_
    refine EL_p (Pu_fld rfl fi74_0) rfl ?_
    refine EL_p (Pu_ixa (j := i) rfl rfl ar71 rfl hlt) rfl ?_
    first | (refine EL_ld rfl fl21 ((H2.cell hj (i := o + 0 + i * 1) (by omega)).trans (congrArg some hx0)) rfl ?_) | (refine EL_ld rfl fl21 ((H2.cell hj (i := o + 2 + i * 1) (by omega)).trans (congrArg some hx1)) rfl ?_)
    refine EL_p (Pu_mv rfl) rfl ?_
    refine EL_p (Pu_eql rfl rfl) rfl ?_
    refine EL_p (Pu_mv rfl) rfl ?_
    refine EL_gP rfl rfl (fun g18 => ?_) (fun g18 => ?_)
    · refine EL_yes rfl rfl ?_
      refine EL_p (Pu_mv rfl) rfl ?_
      refine EL_yes rfl rfl ?_
      refine EL_p (Pu_mv rfl) rfl ?_
      refine EL_yes rfl rfl ?_
      refine EL_p (Pu_nil rfl) rfl ?_
      refine EL_yes rfl rfl ?_
      refine EL_p (Pu_fld rfl fi74_1) rfl ?_
      refine EL_yes rfl rfl ?_
      refine EL_p (Pu_ixa (j := i) rfl rfl ar72 rfl hlt) rfl ?_
      refine EL_yes rfl rfl ?_
      first | (refine EL_ld rfl fl3 ((H2.cell hj (i := o + 0 + i * 1) (by omega)).trans (congrArg some hx0)) rfl ?_) | (refine EL_ld rfl fl3 ((H2.cell hj (i := o + 2 + i * 1) (by omega)).trans (congrArg some hx1)) rfl ?_)
      refine EL_yes rfl rfl ?_
      refine EL_p (Pu_gtr rfl rfl) rfl ?_
      refine EL_p (Pu_pt rfl rfl) rfl ?_
      refine EL_nil ?_
      refine CE_cP rfl (fun c26 => ?_) (fun c26 => ?_)
      · refine CE_ret ?_
        refine ⟨_, rfl, rfl, ?_⟩
        rw [LEnd.add_found (by
          have : i = 0 ∨ i = 1 := by omega
          rcases this with rfl | rfl
          · exact .inl ⟨by simpa using g18, by simpa using c26⟩
          · exact .inr ⟨by simpa using g18, by simpa using c26⟩)]
        exact Hs2
      · refine CE_skip ?_
        refine CE_reg ?_
        refine EL_p (Pu_add rfl rfl (w64 (by omega))) rfl ?_
        refine EL_p (Pu_mv rfl) rfl ?_
        refine EL_nil ?_
        refine ⟨i + 1, by omega, ⟨rfl, rfl, rfl, rfl, trivial⟩, by omega, H2, Hs2, ?_, ?_⟩
        all_goals
          intro h1
          have : i = 0 ∨ i = 1 := by omega
          rcases this with rfl | rfl
          all_goals first | exact hf0 (by omega) | exact hf1 (by omega) | omega | (rintro ⟨h2, h3⟩; simp only [if_true, Nat.one_ne_zero, if_false] at *; omega)
    · refine EL_no rfl rfl rfl rfl ?_
      refine EL_no rfl rfl rfl rfl ?_
      refine EL_no rfl rfl rfl rfl ?_
      refine EL_no rfl rfl rfl rfl ?_
      refine EL_no rfl rfl rfl rfl ?_
      refine EL_no rfl rfl rfl rfl ?_
      refine EL_no rfl rfl rfl rfl ?_
      refine EL_p (Pu_pf rfl rfl) rfl ?_
      refine EL_nil ?_
      refine CE_cond_f rfl ?_
      refine CE_skip ?_
      refine CE_reg ?_
      refine EL_p (Pu_add rfl rfl (w64 (by omega))) rfl ?_
      refine EL_p (Pu_mv rfl) rfl ?_
      refine EL_nil ?_
      refine ⟨i + 1, by omega, ⟨rfl, rfl, rfl, rfl, trivial⟩, by omega, H2, Hs2, ?_, ?_⟩
      all_goals
        intro h1
        have : i = 0 ∨ i = 1 := by omega
        rcases this with rfl | rfl
        all_goals first | exact hf0 (by omega) | exact hf1 (by omega) | omega | (rintro ⟨h2, h3⟩; simp only [if_true, Nat.one_ne_zero, if_false] at *; omega)
  · refine CE_exit ?_
    refine CE_seq ?_
    have hi2 : i = 2 := by omega
    have hnf : ¬ ((l.t0 = t ∧ 0 < l.e0) ∨ (l.t1 = t ∧ 0 < l.e1)) := fun h => h.elim (hf0 (by omega)) (hf1 (by omega))
    refine CE_reg ?_
    refine EL_p (Pu_mv rfl) rfl ?_
    refine EL_p (Pu_mv rfl) rfl ?_
    refine EL_p (Pu_nil rfl) rfl ?_
    refine EL_p (Pu_fld rfl fi74_1) rfl ?_
    refine EL_p (Pu_ixa rfl rfl ar72 rfl (by decide)) rfl ?_
    refine EL_ld rfl fl3 ((H2.cell hj (i := o + 2) (by omega)).trans (congrArg some hl.c2)) rfl ?_
    refine EL_p (Pu_gtr rfl rfl) rfl ?_
    refine EL_nil ?_
    refine CE_cP rfl (fun c34 => ?_) (fun c34 => ?_)
    · refine CE_seq ?_
      refine CE_drawH H2 (fun w => w.cell? ⟨b, o, none⟩ = some (.int .i32 l.t0) ∧ w.cell? ⟨b, o + 2, none⟩ = some (.int .i64 l.e0)) [(0, 0), (1, 0), (2, 0), (3, 0), (4, 0), (5, 0), (6, 0), (7, 0), (8, 0), (9, 0), (10, 0), (11, 0), (12, 0), (13, 0), (14, 0), (16, 0), (17, 0), (15, 1), (18, 0), (19, 2)] mixed rfl (by kernel_rfl) (fun w3 H3 => ?_)
      have hS := And.intro ((H3.cell hj (i := o) (by omega)).trans (congrArg some hl.c0)) ((H3.cell hj (i := o + 2) (by omega)).trans (congrArg some hl.c2))
      refine AO_p rfl hS (Pu.toIf (Pu_mv rfl)) rfl ?_
      refine AO_p rfl hS (Pu.toIf (Pu_mv rfl)) rfl ?_
      refine AO_p rfl hS (Pu.toIf (Pu_mv rfl)) rfl ?_
      refine AO_p rfl hS (Pu.toIf (Pu_nil rfl)) rfl ?_
      refine AO_p rfl hS (Pu.toIf (Pu_fld rfl fi74_0)) rfl ?_
      refine AO_p rfl hS (Pu.toIf (Pu_ixa rfl rfl ar71 rfl (by decide))) rfl ?_
      first | (refine AO_p rfl hS (Ld rfl fl21 (fun w h => h.1)) rfl ?_) | (refine AO_p rfl hS (Ld rfl fl21 (fun w h => h.2)) rfl ?_)
      refine AO_p rfl hS (Pu.toIf (Pu_mv rfl)) rfl ?_
      refine AO_p rfl hS (Pu.toIf (Pu_nil rfl)) rfl ?_
      refine AO_p rfl hS (Pu.toIf (Pu_fld rfl fi74_1)) rfl ?_
      refine AO_p rfl hS (Pu.toIf (Pu_ixa rfl rfl ar72 rfl (by decide))) rfl ?_
      first | (refine AO_p rfl hS (Ld rfl fl3 (fun w h => h.1)) rfl ?_) | (refine AO_p rfl hS (Ld rfl fl3 (fun w h => h.2)) rfl ?_)
      refine AO_p rfl hS (Pu.toIf (Pu_nil rfl)) rfl ?_
      refine AO_p rfl hS (Pu.toIf (Pu_fld rfl fi74_0)) rfl ?_
      refine AO_p rfl hS (Pu.toIf (Pu_ixa rfl rfl ar71 rfl (by decide))) rfl ?_
      refine AO_p rfl hS (Pu.toIf (Pu_nil rfl)) rfl ?_
      refine AO_p rfl hS (Pu.toIf (Pu_fld rfl fi74_1)) rfl ?_
      refine AO_L0 rfl (Lo_st (i := o + 1) H3 hj rfl rfl fl21 rfl (by omega) (fun w4 H4 => ?_))
      have hS4 : w4.cell? ⟨b, o, none⟩ = some (.int .i32 l.t0) ∧ w4.cell? ⟨b, o + 2, none⟩ = some (.int .i64 l.e0) := ⟨(H4.cell (set_at hj) (i := o) (by omega)).trans (congrArg some ((setF_ne f _ (by omega)).trans hl.c0)), (H4.cell (set_at hj) (i := o + 2) (by omega)).trans (congrArg some ((setF_ne f _ (by omega)).trans hl.c2))⟩
      refine ⟨hS4, ?_⟩
      refine AO_p rfl hS4 (Pu.toIf (Pu_ixa rfl rfl ar72 rfl (by decide))) rfl ?_
      refine AO_S0 rfl (Lo_st (i := o + 3) H4 (set_at hj) rfl rfl fl3 rfl (by omega) (fun w5 H5 => ?_))
      rw [List.set_set] at H5
      refine AO_nil ?_
      refine CE_drawH H5 (fun w => True) [(0, 0), (1, 0), (2, 0), (3, 0), (4, 0), (5, 0), (6, 0), (8, 0), (9, 0), (7, 1), (10, 0), (11, 2)] mixed rfl (by kernel_rfl) (fun w6 H6 => ?_)
      refine AO_p rfl trivial (Pu.toIf (Pu_mv rfl)) rfl ?_
      refine AO_p rfl trivial (Pu.toIf (Pu_mv rfl)) rfl ?_
      refine AO_p rfl trivial (Pu.toIf (Pu_mv rfl)) rfl ?_
      refine AO_p rfl trivial (Pu.toIf (Pu_mv rfl)) rfl ?_
      refine AO_p rfl trivial (Pu.toIf (Pu_nil rfl)) rfl ?_
      refine AO_p rfl trivial (Pu.toIf (Pu_fld rfl fi74_0)) rfl ?_
      refine AO_p rfl trivial (Pu.toIf (Pu_ixa rfl rfl ar71 rfl (by decide))) rfl ?_
      refine AO_p rfl trivial (Pu.toIf (Pu_nil rfl)) rfl ?_
      refine AO_p rfl trivial (Pu.toIf (Pu_fld rfl fi74_1)) rfl ?_
      refine AO_L0 rfl (Lo_st (i := o) H6 (set_at hj) rfl rfl fl21 rfl (by omega) (fun w7 H7 => ⟨trivial, ?_⟩))
      rw [List.set_set] at H7
      refine AO_p rfl trivial (Pu.toIf (Pu_ixa rfl rfl ar72 rfl (by decide))) rfl ?_
      refine AO_S0 rfl (Lo_st (i := o + 2) H7 (set_at hj) rfl rfl fl3 rfl (by omega) (fun w8 H8 => ?_))
      rw [List.set_set] at H8
      refine AO_nil ?_
      refine ⟨_, rfl, rfl, ?_⟩
      rw [LEnd.add_first hnf (by omega)]
      have H9 := H8.congr (set_at hj) (g := setLE f o ⟨t, l.t0, e, l.e0⟩) (fun k hk => by
        unfold setF setLE
        by_cases h0 : k = o
        · simp [h0]
        · by_cases h1 : k = o + 1
          · simp [h1]
          · by_cases h2 : k = o + 2
            · simp [h2]
            · by_cases h3 : k = o + 3
              · simp [h3]
              · simp [h0, h1, h2, h3])
      rw [List.set_set] at H9
      exact H9
    · refine CE_seq ?_
      refine CE_reg ?_
      refine EL_p (Pu_mv rfl) rfl ?_
      refine EL_p (Pu_mv rfl) rfl ?_
      refine EL_p (Pu_nil rfl) rfl ?_
      refine EL_p (Pu_fld rfl fi74_1) rfl ?_
      refine EL_p (Pu_ixa rfl rfl ar72 rfl (by decide)) rfl ?_
      refine EL_ld rfl fl3 ((H2.cell hj (i := o + 3) (by omega)).trans (congrArg some hl.c3)) rfl ?_
      refine EL_p (Pu_gtr rfl rfl) rfl ?_
      refine EL_nil ?_
      refine CE_cP rfl (fun c69 => ?_) (fun c69 => ?_)
      · refine CE_drawH H2 (fun w => True) [(0, 0), (1, 0), (2, 0), (3, 0), (4, 0), (5, 0), (6, 0), (8, 0), (9, 0), (7, 1), (10, 0), (11, 2)] mixed rfl (by kernel_rfl) (fun w3 H3 => ?_)
        refine AO_p rfl trivial (Pu.toIf (Pu_mv rfl)) rfl ?_
        refine AO_p rfl trivial (Pu.toIf (Pu_mv rfl)) rfl ?_
        refine AO_p rfl trivial (Pu.toIf (Pu_mv rfl)) rfl ?_
        refine AO_p rfl trivial (Pu.toIf (Pu_mv rfl)) rfl ?_
        refine AO_p rfl trivial (Pu.toIf (Pu_nil rfl)) rfl ?_
        refine AO_p rfl trivial (Pu.toIf (Pu_fld rfl fi74_0)) rfl ?_
        refine AO_p rfl trivial (Pu.toIf (Pu_ixa rfl rfl ar71 rfl (by decide))) rfl ?_
        refine AO_p rfl trivial (Pu.toIf (Pu_nil rfl)) rfl ?_
        refine AO_p rfl trivial (Pu.toIf (Pu_fld rfl fi74_1)) rfl ?_
        refine AO_L0 rfl (Lo_st (i := o + 1) H3 hj rfl rfl fl21 rfl (by omega) (fun w4 H4 => ⟨trivial, ?_⟩))
        refine AO_p rfl trivial (Pu.toIf (Pu_ixa rfl rfl ar72 rfl (by decide))) rfl ?_
        refine AO_S0 rfl (Lo_st (i := o + 3) H4 (set_at hj) rfl rfl fl3 rfl (by omega) (fun w5 H5 => ?_))
        rw [List.set_set] at H5
        refine AO_nil ?_
        refine ⟨_, rfl, rfl, ?_⟩
        rw [LEnd.add_second hnf (by omega) (by omega)]
        have H9 := H5.congr (set_at hj) (g := setLE f o ⟨l.t0, t, l.e0, e⟩) (fun k hk => by
          unfold setF setLE
          by_cases h0 : k = o
          · simp [h0, hl.c0]
          · by_cases h1 : k = o + 1
            · simp [h1]
            · by_cases h2 : k = o + 2
              · simp [h2, hl.c2]
              · by_cases h3 : k = o + 3
                · simp [h3]
                · simp [h0, h1, h2, h3])
        rw [List.set_set] at H9
        exact H9
      · refine CE_skip ?_
        refine ⟨_, rfl, rfl, ?_⟩
        rw [LEnd.add_none hnf (by omega) (by omega)]
        exact Hs2

/-! ### What lastEnding is for -/
structure LE (S : Nat → Prop) (E : Nat → Nat) (l : LEnd) : Prop where
  p1 : 0 ≤ l.e1
  p0 : l.e1 ≤ l.e0
  f0 : 0 < l.e0 → ∃ u : Nat, S u ∧ l.t0 = u ∧ l.e0 = E u
  f1 : 0 < l.e1 → ∃ u : Nat, S u ∧ l.t1 = u ∧ l.e1 = E u ∧ l.t1 ≠ l.t0
  c0 : ∀ u, S u → (E u : Int) ≤ l.e0
  c1 : ∀ u : Nat, S u → l.t0 ≠ u → (E u : Int) ≤ l.e1

theorem LE.lower {S : Nat → Prop} {E : Nat → Nat} {l : LEnd} (h : LE S E l) {u t : Nat} (hu : S u) (hne : u ≠ t) : (E u : Int) ≤ l.after t := by
  unfold LEnd.after
  by_cases h0 : l.t0 = t
  · rw [if_pos h0]; exact h.c1 u hu (by omega)
  · rw [if_neg h0]; exact h.c0 u hu

theorem LE.upper {S : Nat → Prop} {E : Nat → Nat} {l : LEnd} (h : LE S E l) {t : Nat} (hp : 0 < l.after t) : ∃ u, S u ∧ u ≠ t ∧ l.after t = E u := by
  unfold LEnd.after at *
  by_cases h0 : l.t0 = t
  · rw [if_pos h0] at *
    obtain ⟨u, h1, h2, h3, h4⟩ := h.f1 hp
    exact ⟨u, h1, by omega, h3⟩
  · rw [if_neg h0] at *
    obtain ⟨u, h1, h2, h3⟩ := h.f0 hp
    exact ⟨u, h1, by omega, h3⟩

theorem LE.add {S S' : Nat → Prop} {E : Nat → Nat} {l : LEnd} (h : LE S E l) (t : Nat) (ht : 0 < E t) (hS : ∀ u, S' u ↔ S u ∨ u = t) : LE S' E (l.add t (E t)) := by
  have hin : ∀ u, S u → S' u := fun u hu => (hS u).2 (.inl hu)
  have ht' : S' t := (hS t).2 (.inr rfl)
  by_cases hf : (l.t0 = t ∧ 0 < l.e0) ∨ (l.t1 = t ∧ 0 < l.e1)
  · rw [LEnd.add_found hf]
    have htS : S t := by
      rcases hf with ⟨h1, h2⟩ | ⟨h1, h2⟩
      · obtain ⟨u, g1, g2, _⟩ := h.f0 h2
        have : u = t := by omega
        rw [← this]; exact g1
      · obtain ⟨u, g1, g2, _⟩ := h.f1 h2
        have : u = t := by omega
        rw [← this]; exact g1
    have hiff : ∀ u, S' u → S u := fun u hu => by
      rcases (hS u).1 hu with h1 | h1
      · exact h1
      · rw [h1]; exact htS
    exact ⟨h.p1, h.p0, fun h1 => let ⟨u, g⟩ := h.f0 h1; ⟨u, hin u g.1, g.2⟩, fun h1 => let ⟨u, g⟩ := h.f1 h1; ⟨u, hin u g.1, g.2⟩, fun u hu => h.c0 u (hiff u hu), fun u hu => h.c1 u (hiff u hu)⟩
  · have p1 := h.p1
    have p0 := h.p0
    by_cases h0 : l.e0 < (E t : Int)
    · rw [LEnd.add_first hf h0]
      refine ⟨by dsimp only; omega, by dsimp only; omega, fun _ => ⟨t, ht', rfl, rfl⟩, fun h1 => ?_, fun u hu => ?_, fun u hu hne => ?_⟩
      · dsimp only at *
        obtain ⟨u, g1, g2, g3⟩ := h.f0 h1
        exact ⟨u, hin u g1, g2, g3, fun hc => hf (.inl ⟨hc, h1⟩)⟩
      · dsimp only
        rcases (hS u).1 hu with h1 | h1
        · have := h.c0 u h1; omega
        · subst h1; omega
      · dsimp only at *
        rcases (hS u).1 hu with h1 | h1
        · exact h.c0 u h1
        · subst h1; exact absurd rfl hne
    · by_cases h1 : l.e1 < (E t : Int)
      · rw [LEnd.add_second hf h0 h1]
        refine ⟨by dsimp only; omega, by dsimp only; omega, fun h2 => ?_, fun h2 => ⟨t, ht', rfl, rfl, fun hc => hf (.inl ⟨hc.symm, ?_⟩)⟩, fun u hu => ?_, fun u hu hne => ?_⟩
        · dsimp only at *
          obtain ⟨u, g1, g2⟩ := h.f0 h2
          exact ⟨u, hin u g1, g2⟩
        · omega
        · dsimp only
          rcases (hS u).1 hu with h2 | h2
          · exact h.c0 u h2
          · subst h2; omega
        · dsimp only at *
          rcases (hS u).1 hu with h2 | h2
          · have := h.c1 u h2 hne; omega
          · subst h2; omega
      · rw [LEnd.add_none hf h0 h1]
        refine ⟨h.p1, h.p0, fun h2 => let ⟨u, g⟩ := h.f0 h2; ⟨u, hin u g.1, g.2⟩, fun h2 => let ⟨u, g⟩ := h.f1 h2; ⟨u, hin u g.1, g.2⟩, fun u hu => ?_, fun u hu hne => ?_⟩
        · rcases (hS u).1 hu with h2 | h2
          · exact h.c0 u h2
          · subst h2; omega
        · rcases (hS u).1 hu with h2 | h2
          · exact h.c1 u h2 hne
          · subst h2; omega

theorem LE.mono {S S' : Nat → Prop} {E : Nat → Nat} {l : LEnd} (h : LE S E l) (hS : ∀ u, S' u ↔ S u) : LE S' E l :=
  ⟨h.p1, h.p0, fun h1 => let ⟨u, g⟩ := h.f0 h1; ⟨u, (hS u).2 g.1, g.2⟩, fun h1 => let ⟨u, g⟩ := h.f1 h1; ⟨u, (hS u).2 g.1, g.2⟩, fun u hu => h.c0 u ((hS u).1 hu), fun u hu => h.c1 u ((hS u).1 hu)⟩
end Go.Proofs.Qxb6602549a
