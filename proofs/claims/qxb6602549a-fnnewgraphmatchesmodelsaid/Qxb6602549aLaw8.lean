/-
  FnNewGraphMatchesModel, walked.
-/
import Derived.Test.Qxb6602549aLaw6
import Derived.Test.Qxb6602549aTm
namespace Go.Proofs.Qxb6602549a
open Go Go.RowKit
set_option linter.unusedSimpArgs false
set_option linter.unusedVariables false

theorem Pu_neqP {P : Program} {N : Nat} {e : Env} {x y : Operand} {ty t t2 el : TypeId} {a : Addr} {n : Nat} (hx : opv e x = some (.pointer (some a))) (hy : opv e y = some (.pointer (some a))) (ht : P.underlying t = some (.pointer el)) (hs : ∃ i, P.info? el = some i ∧ i.size = n + 1) : Pu P N (.binOp .neq t x y t2) ty e (.bool false) := by
  refine ⟨fun a' ha dst pos af g w => ?_⟩
  have hsa : (sameAddr a a).run P w = .ok true w := by simp [sameAddr]
  have h : ∀ d : Nat, (Op.equalIn (d + 1) t (.pointer (some a)) (.pointer (some a))).run P w = .ok true w := fun d => by
    obtain ⟨i, h1, h2⟩ := hs
    simp [Op.equalIn, run_underlying ht, sizeOf, typeInfo, program, Sem.run, h1, h2, hsa]
  have h2 : (binOp .neq t (.pointer (some a)) (.pointer (some a))).run P w = .ok (.bool false) w := by
    simp only [binOp]
    simp [Op.equal, Op.maxDepth, h 9999]
  simp [execOp, ha.eval hx, ha.eval hy, eqGuard, h2]
theorem sz59 : ∃ i, Try.prog.info? 59 = some i ∧ i.size = 6 + 1 := sizeT inf59
theorem u33 : Try.prog.underlying 33 = some (.pointer 59) := Try.underlying33

structure M8 where
  p : Nat
  Ra : Nat → Row
  Rw : Nat → Row
  Ro : Nat → Row
  Rt : Nat → Row

structure I8 (h : HRec) (g : M8) : Prop where
  acc : ∀ x, x < h.m → RepI (g.Ra x) (accF h x g.p)
  wrs : ∀ x, x < h.m → RepI (g.Rw x) (wrsF h x g.p)
  out : ∀ t, t < h.nt → RepI (g.Ro t) (outF h t g.p)
  xs : ∀ t, t < h.nt → RepI (g.Rt t) (xsF h t g.p)

section
variable {h : HRec} {p x : Nat} {R : Nat → Row} {r : Row}
theorem acc_next (hl : lvB h p = true) (hx : h.I p = (x : Nat)) (hR : ∀ y, y < h.m → RepI (R y) (accF h y p)) (hr : RepI r (accF h x p ++ [h.T p])) : ∀ y, y < h.m → RepI (updR R x r y) (accF h y (p + 1)) := by
  intro y hy
  by_cases h1 : y = x
  · subst h1
    rw [updR_self, accF, if_pos ⟨hl, hx⟩]; exact hr
  · rw [updR_ne _ _ h1, accF, if_neg (fun hh => h1 (by have := hh.2; omega))]; exact hR y hy
theorem wrs_next (hl : lvB h p = true) (hx : h.I p = (x : Nat)) (hA : h.A p = 119) (hR : ∀ y, y < h.m → RepI (R y) (wrsF h y p)) (hr : RepI r (wrsF h x p ++ [h.T p])) : ∀ y, y < h.m → RepI (updR R x r y) (wrsF h y (p + 1)) := by
  intro y hy
  by_cases h1 : y = x
  · subst h1
    rw [updR_self, wrsF, if_pos ⟨hl, hx, hA⟩]; exact hr
  · rw [updR_ne _ _ h1, wrsF, if_neg (fun hh => h1 (by have := hh.2.1; omega))]; exact hR y hy
theorem wrs_same (hA : ¬ h.A p = 119) (hR : ∀ y, y < h.m → RepI (R y) (wrsF h y p)) : ∀ y, y < h.m → RepI (R y) (wrsF h y (p + 1)) := by
  intro y hy
  rw [wrsF, if_neg (fun hh => hA hh.2.2)]; exact hR y hy
theorem xs_next (hl : lvB h p = true) (hx : h.I p = (x : Nat)) (hn : ¬ x ∈ xsF h (h.T p) p) (hR : ∀ t, t < h.nt → RepI (R t) (xsF h t p)) (hr : RepI r (xsF h (h.T p) p ++ [x])) : ∀ t, t < h.nt → RepI (updR R (h.T p) r t) (xsF h t (p + 1)) := by
  intro t ht
  by_cases h1 : t = h.T p
  · subst h1
    rw [updR_self, xsF, if_pos ⟨hl, rfl, by rw [itm_eq hx]; exact hn⟩, itm_eq hx]; exact hr
  · rw [updR_ne _ _ h1, xsF, if_neg (fun hh => h1 hh.2.1.symm)]; exact hR t ht
theorem xs_same (hx : h.I p = (x : Nat)) (hn : x ∈ xsF h (h.T p) p) (hR : ∀ t, t < h.nt → RepI (R t) (xsF h t p)) : ∀ t, t < h.nt → RepI (R t) (xsF h t (p + 1)) := by
  intro t ht
  rw [xsF, if_neg (fun hh => hh.2.2 (by rw [itm_eq hx, ← hh.2.1]; exact hn))]; exact hR t ht
theorem xsF_length (h : HRec) (t : Nat) : ∀ p, (xsF h t p).length ≤ p
  | 0 => by simp [xsF]
  | p + 1 => by
    have := xsF_length h t p
    rw [xsF]; split <;> simp <;> omega
end
theorem I8.skip {h : HRec} {g : M8} (hi : I8 h g) (hl : lvB h g.p = false) : I8 h { g with p := g.p + 1 } := by
  have hf : ¬ lvB h g.p = true := by rw [hl]; exact Bool.false_ne_true
  refine ⟨fun x hx => ?_, fun x hx => ?_, fun t ht => ?_, fun t ht => ?_⟩
  · show RepI (g.Ra x) (accF h x (g.p + 1))
    rw [accF, if_neg (fun hh => hf hh.1)]; exact hi.acc x hx
  · show RepI (g.Rw x) (wrsF h x (g.p + 1))
    rw [wrsF, if_neg (fun hh => hf hh.1)]; exact hi.wrs x hx
  · show RepI (g.Ro t) (outF h t (g.p + 1))
    rw [outF, if_neg hf]; exact hi.out t ht
  · show RepI (g.Rt t) (xsF h t (g.p + 1))
    rw [xsF, if_neg (fun hh => hf hh.1)]; exact hi.xs t ht
/-- the edge from the last writer, on rows of any make -/
theorem wedge_next {h : HRec} {p u0 : Nat} {R : Nat → Row} {r : Row} (hR : ∀ t, t < h.nt → RepI (R t) (outF h t p)) (hw : wrtF h (itm h p) p = (u0 : Nat)) (hne : u0 ≠ h.T p) (hr : RepI r (outF h u0 p ++ [h.T p])) : ∀ u, u < h.nt → RepI (updR R u0 r u) (outF h u p ++ wedge h p u) := by
  intro u hu
  unfold wedge
  by_cases h1 : u = u0
  · subst h1
    rw [updR_self, if_pos ⟨hw, hne⟩]; exact hr
  · rw [updR_ne _ _ h1, if_neg (fun hh => h1 (by have := hh.1; omega)), List.append_nil]; exact hR u hu
theorem wedge_same {h : HRec} {p : Nat} {R : Nat → Row} (hR : ∀ t, t < h.nt → RepI (R t) (outF h t p)) (hw : wrtF h (itm h p) p < 0 ∨ wrtF h (itm h p) p = h.T p) : ∀ u, u < h.nt → RepI (R u) (outF h u p ++ wedge h p u) := by
  intro u hu
  unfold wedge
  rw [if_neg (fun hh => by omega), List.append_nil]; exact hR u hu

theorem red2_yes {nt t r : Nat} {l : List Nat} {base : Nat → List Nat} {Rq : Nat → Row} {ro : Row} (hRq : ∀ u, u < nt → RepI (Rq u) (base u ++ redges t u l)) (hne : r ≠ t) (hro : RepI ro ((base r ++ redges t r l) ++ [t])) : ∀ u, u < nt → RepI (updR Rq r ro u) (base u ++ redges t u (l ++ [r])) := by
  intro u hu
  rw [redges_snoc]
  by_cases h1 : u = r
  · subst h1
    rw [updR_self, if_pos ⟨rfl, hne⟩, ← List.append_assoc]; exact hro
  · rw [updR_ne _ _ h1, if_neg (fun hh => h1 hh.1.symm), List.append_nil]; exact hRq u hu
theorem red2_no {nt t r : Nat} {l : List Nat} {base : Nat → List Nat} {Rq : Nat → Row} (hRq : ∀ u, u < nt → RepI (Rq u) (base u ++ redges t u l)) (hne : r = t) : ∀ u, u < nt → RepI (Rq u) (base u ++ redges t u (l ++ [r])) := by
  intro u hu
  rw [redges_snoc, if_neg (fun hh => hh.2 hne), List.append_nil]; exact hRq u hu
theorem rdR_yes {h : HRec} {x k : Nat} {w : Int} (hw : w < (k : Int)) (hl : lvB h k = true) (hx : h.I k = (x : Nat)) (hA : h.A k ≠ 119) : rdR h x w (k + 1) = rdR h x w k ++ [h.T k] := by rw [rdR, if_pos ⟨hw, hl, hx, hA⟩]
theorem rdR_no {h : HRec} {x k : Nat} {w : Int} (hh : ¬ (lvB h k = true ∧ h.I k = (x : Nat) ∧ h.A k ≠ 119)) : rdR h x w (k + 1) = rdR h x w k := by rw [rdR, if_neg (fun h2 => hh h2.2)]
theorem rdR_length (h : HRec) (x : Nat) (w : Int) : ∀ k, (rdR h x w k).length ≤ k
  | 0 => Nat.le_refl _
  | k + 1 => by
    have := rdR_length h x w k
    rw [rdR]; split <;> simp <;> omega


set_option maxHeartbeats 2000000 in
theorem law8 {w : World} {a0 a1 a2 a3 a5 a6 : Option Addr} {l0 l1 l2 l3 l5 l6 c0 c1 c2 c3 c5 c6 : Nat} {A X T I E : Nat → Int} {B : Nat → Bool} {m : Int} (ar : Args w a0 a1 a2 a3 a5 a6 l0 l1 l2 l3 l5 l6 A X T I E B) :
    Calls Try.prog 8 #[.slice a0 l0 c0, .slice a1 l1 c1, .slice a2 l2 c2, .slice a3 l3 c3, .int .i64 m, .slice a5 l5 c5, .slice a6 l6 c6] w fun x w' => x = .returned (.bool true) ∧ Below w.heap.size w w' := by
  have H := HP.start w
  obtain ⟨s0, s1, s2, s3, s5, s6, hT, hI⟩ := ar
  refine calls_CE Try.func8 rfl Try.ntmps8 rfl rfl ?_
  refine CE_seq ?_
  refine CE_reg ?_
  refine EL_p (Pu_as rfl) rfl ?_
  refine EL_nil ?_
  refine CE_seq ?_
  refine CE_seq ?_
  refine CE_reg ?_
  refine EL_p (Pu_mv rfl) rfl ?_
  refine EL_p (Pu_mv rfl) rfl ?_
  refine EL_p (Pu_mv rfl) rfl ?_
  refine EL_p (Pu_mv rfl) rfl ?_
  refine EL_p (Pu_mv rfl) rfl ?_
  refine EL_p (Pu_mv rfl) rfl ?_
  refine EL_p (Pu_mv rfl) rfl ?_
  refine EL_L rfl (Lo_call ca32 rfl ((bytes32 H).mono (fun y w1 hh => ?_)))
  obtain ⟨⟨bb, hy, hbb⟩, H1⟩ := hh
  refine ⟨_, hy, ?_⟩
  refine EL_p (Pu_not rfl) rfl ?_
  refine EL_nil ?_
  refine CE_cB rfl (fun c62 => ?_) (fun c62 => ?_)
  · refine CE_seq ?_
    refine CE_reg ?_
    refine EL_p (Pu_as rfl) rfl ?_
    refine EL_nil ?_
    refine CE_ret ?_
    exact ⟨_, rfl, rfl, H1.below⟩
  · have hb := hbb c62
    refine CE_skip ?_
    refine CE_seq ?_
    refine CE_seq ?_
    refine CE_reg ?_
    refine EL_p (Pu_mv rfl) rfl ?_
    refine EL_p (Pu_len rfl sl22 rfl) rfl ?_
    refine EL_p (Pu_mv rfl) rfl ?_
    refine EL_p (Pu_len rfl sl23 rfl) rfl ?_
    refine EL_p (Pu_mul rfl rfl (w64 (by omega))) rfl ?_
    refine EL_p (Pu_add rfl rfl (w64 (by omega))) rfl ?_
    refine EL_p (Pu_mv rfl) rfl ?_
    refine EL_p (Pu_len rfl sl24 rfl) rfl ?_
    refine EL_p (Pu_mul rfl rfl (w64 (by omega))) rfl ?_
    refine EL_p (Pu_add rfl rfl (w64 (by omega))) rfl ?_
    refine EL_p (Pu_mv rfl) rfl ?_
    refine EL_p (Pu_len rfl sl24 rfl) rfl ?_
    refine EL_p (Pu_mul rfl rfl (w64 (by omega))) rfl ?_
    refine EL_p (Pu_add rfl rfl (w64 (by omega))) rfl ?_
    refine EL_p (Pu_mv rfl) rfl ?_
    refine EL_p (Pu_len rfl sl25 rfl) rfl ?_
    refine EL_p (Pu_add rfl rfl (w64 (by omega))) rfl ?_
    refine EL_p (Pu_mv rfl) rfl ?_
    refine EL_p (Pu_len rfl sl23 rfl) rfl ?_
    refine EL_p (Pu_mul rfl rfl (w64 (by omega))) rfl ?_
    refine EL_p (Pu_add rfl rfl (w64 (by omega))) rfl ?_
    refine EL_p (Pu_gtr rfl rfl) rfl ?_
    refine EL_nil ?_
    refine CE_cP rfl (fun c84 => ?_) (fun c84 => ?_)
    · refine CE_seq ?_
      refine CE_reg ?_
      refine EL_p (Pu_as rfl) rfl ?_
      refine EL_nil ?_
      refine CE_ret ?_
      exact ⟨_, rfl, rfl, H1.below⟩
    · refine CE_skip ?_
      refine CE_seq ?_
      refine CE_seq ?_
      refine CE_reg ?_
      refine EL_p (Pu_mv rfl) rfl ?_
      refine EL_p (Pu_len rfl sl22 rfl) rfl ?_
      refine EL_p (Pu_gtr rfl rfl) rfl ?_
      refine EL_p (Pu_mv rfl) rfl ?_
      refine EL_gP rfl rfl (fun g88 => ?_) (fun g88 => ?_)
      · refine EL_no rfl rfl rfl rfl ?_
        refine EL_no rfl rfl rfl rfl ?_
        refine EL_no rfl rfl rfl rfl ?_
        refine EL_p (Pu_pt rfl rfl) rfl ?_
        refine EL_p (Pu_mv rfl) rfl ?_
        refine EL_no rfl rfl rfl rfl ?_
        refine EL_no rfl rfl rfl rfl ?_
        refine EL_no rfl rfl rfl rfl ?_
        refine EL_p (Pu_pt rfl rfl) rfl ?_
        refine EL_p (Pu_mv rfl) rfl ?_
        refine EL_no rfl rfl rfl rfl ?_
        refine EL_no rfl rfl rfl rfl ?_
        refine EL_no rfl rfl rfl rfl ?_
        refine EL_p (Pu_pt rfl rfl) rfl ?_
        refine EL_p (Pu_mv rfl) rfl ?_
        refine EL_no rfl rfl rfl rfl ?_
        refine EL_no rfl rfl rfl rfl ?_
        refine EL_no rfl rfl rfl rfl ?_
        refine EL_p (Pu_pt rfl rfl) rfl ?_
        refine EL_p (Pu_mv rfl) rfl ?_
        refine EL_no rfl rfl rfl rfl ?_
        refine EL_no rfl rfl rfl rfl ?_
        refine EL_no rfl rfl rfl rfl ?_
        refine EL_p (Pu_pt rfl rfl) rfl ?_
        refine EL_nil ?_
        refine CE_cond_t rfl ?_
        refine CE_seq ?_
        refine CE_reg ?_
        refine EL_p (Pu_as rfl) rfl ?_
        refine EL_nil ?_
        refine CE_ret ?_
        exact ⟨_, rfl, rfl, H1.below⟩
      · refine EL_yes rfl rfl ?_
        refine EL_p (Pu_mv rfl) rfl ?_
        refine EL_yes rfl rfl ?_
        refine EL_p (Pu_len rfl sl23 rfl) rfl ?_
        refine EL_yes rfl rfl ?_
        refine EL_p (Pu_gtr rfl rfl) rfl ?_
        refine EL_p (Pu_pf rfl rfl) rfl ?_
        refine EL_p (Pu_mv rfl) rfl ?_
        refine EL_gP rfl rfl (fun g93 => ?_) (fun g93 => ?_)
        · refine EL_no rfl rfl rfl rfl ?_
          refine EL_no rfl rfl rfl rfl ?_
          refine EL_no rfl rfl rfl rfl ?_
          refine EL_p (Pu_pt rfl rfl) rfl ?_
          refine EL_p (Pu_mv rfl) rfl ?_
          refine EL_no rfl rfl rfl rfl ?_
          refine EL_no rfl rfl rfl rfl ?_
          refine EL_no rfl rfl rfl rfl ?_
          refine EL_p (Pu_pt rfl rfl) rfl ?_
          refine EL_p (Pu_mv rfl) rfl ?_
          refine EL_no rfl rfl rfl rfl ?_
          refine EL_no rfl rfl rfl rfl ?_
          refine EL_no rfl rfl rfl rfl ?_
          refine EL_p (Pu_pt rfl rfl) rfl ?_
          refine EL_p (Pu_mv rfl) rfl ?_
          refine EL_no rfl rfl rfl rfl ?_
          refine EL_no rfl rfl rfl rfl ?_
          refine EL_no rfl rfl rfl rfl ?_
          refine EL_p (Pu_pt rfl rfl) rfl ?_
          refine EL_nil ?_
          refine CE_cond_t rfl ?_
          refine CE_seq ?_
          refine CE_reg ?_
          refine EL_p (Pu_as rfl) rfl ?_
          refine EL_nil ?_
          refine CE_ret ?_
          exact ⟨_, rfl, rfl, H1.below⟩
        · refine EL_yes rfl rfl ?_
          refine EL_p (Pu_mv rfl) rfl ?_
          refine EL_yes rfl rfl ?_
          refine EL_p (Pu_len rfl sl24 rfl) rfl ?_
          refine EL_yes rfl rfl ?_
          refine EL_p (Pu_gtr rfl rfl) rfl ?_
          refine EL_p (Pu_pf rfl rfl) rfl ?_
          refine EL_p (Pu_mv rfl) rfl ?_
          refine EL_gP rfl rfl (fun g98 => ?_) (fun g98 => ?_)
          · refine EL_no rfl rfl rfl rfl ?_
            refine EL_no rfl rfl rfl rfl ?_
            refine EL_no rfl rfl rfl rfl ?_
            refine EL_p (Pu_pt rfl rfl) rfl ?_
            refine EL_p (Pu_mv rfl) rfl ?_
            refine EL_no rfl rfl rfl rfl ?_
            refine EL_no rfl rfl rfl rfl ?_
            refine EL_no rfl rfl rfl rfl ?_
            refine EL_p (Pu_pt rfl rfl) rfl ?_
            refine EL_p (Pu_mv rfl) rfl ?_
            refine EL_no rfl rfl rfl rfl ?_
            refine EL_no rfl rfl rfl rfl ?_
            refine EL_no rfl rfl rfl rfl ?_
            refine EL_p (Pu_pt rfl rfl) rfl ?_
            refine EL_nil ?_
            refine CE_cond_t rfl ?_
            refine CE_seq ?_
            refine CE_reg ?_
            refine EL_p (Pu_as rfl) rfl ?_
            refine EL_nil ?_
            refine CE_ret ?_
            exact ⟨_, rfl, rfl, H1.below⟩
          · refine EL_yes rfl rfl ?_
            refine EL_p (Pu_mv rfl) rfl ?_
            refine EL_yes rfl rfl ?_
            refine EL_p (Pu_len rfl sl24 rfl) rfl ?_
            refine EL_yes rfl rfl ?_
            refine EL_p (Pu_gtr rfl rfl) rfl ?_
            refine EL_p (Pu_pf rfl rfl) rfl ?_
            refine EL_p (Pu_mv rfl) rfl ?_
            refine EL_gP rfl rfl (fun g103 => ?_) (fun g103 => ?_)
            · refine EL_no rfl rfl rfl rfl ?_
              refine EL_no rfl rfl rfl rfl ?_
              refine EL_no rfl rfl rfl rfl ?_
              refine EL_p (Pu_pt rfl rfl) rfl ?_
              refine EL_p (Pu_mv rfl) rfl ?_
              refine EL_no rfl rfl rfl rfl ?_
              refine EL_no rfl rfl rfl rfl ?_
              refine EL_no rfl rfl rfl rfl ?_
              refine EL_p (Pu_pt rfl rfl) rfl ?_
              refine EL_nil ?_
              refine CE_cond_t rfl ?_
              refine CE_seq ?_
              refine CE_reg ?_
              refine EL_p (Pu_as rfl) rfl ?_
              refine EL_nil ?_
              refine CE_ret ?_
              exact ⟨_, rfl, rfl, H1.below⟩
            · refine EL_yes rfl rfl ?_
              refine EL_p (Pu_mv rfl) rfl ?_
              refine EL_yes rfl rfl ?_
              refine EL_p (Pu_len rfl sl25 rfl) rfl ?_
              refine EL_yes rfl rfl ?_
              refine EL_p (Pu_gtr rfl rfl) rfl ?_
              refine EL_p (Pu_pf rfl rfl) rfl ?_
              refine EL_p (Pu_mv rfl) rfl ?_
              refine EL_gP rfl rfl (fun g108 => ?_) (fun g108 => ?_)
              · refine EL_no rfl rfl rfl rfl ?_
                refine EL_no rfl rfl rfl rfl ?_
                refine EL_no rfl rfl rfl rfl ?_
                refine EL_p (Pu_pt rfl rfl) rfl ?_
                refine EL_nil ?_
                refine CE_cond_t rfl ?_
                refine CE_seq ?_
                refine CE_reg ?_
                refine EL_p (Pu_as rfl) rfl ?_
                refine EL_nil ?_
                refine CE_ret ?_
                exact ⟨_, rfl, rfl, H1.below⟩
              · refine EL_yes rfl rfl ?_
                refine EL_p (Pu_mv rfl) rfl ?_
                refine EL_yes rfl rfl ?_
                refine EL_p (Pu_len rfl sl23 rfl) rfl ?_
                refine EL_yes rfl rfl ?_
                refine EL_p (Pu_gtr rfl rfl) rfl ?_
                refine EL_p (Pu_pf rfl rfl) rfl ?_
                refine EL_nil ?_
                refine CE_cP rfl (fun c112 => ?_) (fun c112 => ?_)
                · refine CE_seq ?_
                  refine CE_reg ?_
                  refine EL_p (Pu_as rfl) rfl ?_
                  refine EL_nil ?_
                  refine CE_ret ?_
                  exact ⟨_, rfl, rfl, H1.below⟩
                · refine CE_skip ?_
                  refine CE_seq ?_
                  refine CE_seq ?_
                  refine CE_reg ?_
                  refine EL_p (Pu_mv rfl) rfl ?_
                  refine EL_p (Pu_lss rfl rfl) rfl ?_
                  refine EL_p (Pu_mv rfl) rfl ?_
                  refine EL_gP rfl rfl (fun g115 => ?_) (fun g115 => ?_)
                  · refine EL_no rfl rfl rfl rfl ?_
                    refine EL_no rfl rfl rfl rfl ?_
                    refine EL_p (Pu_pt rfl rfl) rfl ?_
                    refine EL_nil ?_
                    refine CE_cond_t rfl ?_
                    refine CE_seq ?_
                    refine CE_reg ?_
                    refine EL_p (Pu_as rfl) rfl ?_
                    refine EL_nil ?_
                    refine CE_ret ?_
                    exact ⟨_, rfl, rfl, H1.below⟩
                  · refine EL_yes rfl rfl ?_
                    refine EL_p (Pu_mv rfl) rfl ?_
                    refine EL_yes rfl rfl ?_
                    refine EL_p (Pu_gtr rfl rfl) rfl ?_
                    refine EL_p (Pu_pf rfl rfl) rfl ?_
                    refine EL_nil ?_
                    refine CE_cP rfl (fun c118 => ?_) (fun c118 => ?_)
                    · refine CE_seq ?_
                      refine CE_reg ?_
                      refine EL_p (Pu_as rfl) rfl ?_
                      refine EL_nil ?_
                      refine CE_ret ?_
                      exact ⟨_, rfl, rfl, H1.below⟩
                    · obtain ⟨m, rfl⟩ : ∃ k : Nat, m = k := ⟨m.toNat, by omega⟩
                      refine CE_skip ?_
                      refine CE_seq ?_
                      refine CE_seq ?_
                      refine CE_reg ?_
                      refine EL_p (Pu_mv rfl) rfl ?_
                      refine EL_p (Pu_mv rfl) rfl ?_
                      refine EL_p (Pu_mv rfl) rfl ?_
                      refine EL_p (Pu_mv rfl) rfl ?_
                      refine EL_p (Pu_mv rfl) rfl ?_
                      refine EL_p (Pu_mv rfl) rfl ?_
                      refine EL_L rfl (Lo_call ca10 rfl ((shape10 H1 s0 s2 s3 hT hI (by omega)).mono (fun y w2 hh => ?_)))
                      obtain ⟨b10, hy, hsh, H2⟩ := hh
                      refine ⟨_, hy, ?_⟩
                      refine EL_p (Pu_not rfl) rfl ?_
                      refine EL_nil ?_
                      refine CE_cB rfl (fun c126 => ?_) (fun c126 => ?_)
                      · refine CE_seq ?_
                        refine CE_reg ?_
                        refine EL_p (Pu_as rfl) rfl ?_
                        refine EL_nil ?_
                        refine CE_ret ?_
                        exact ⟨_, rfl, rfl, H2.below⟩
                      · obtain ⟨e2, e3, e5, m0, ok⟩ := hsh c126
                        subst e2 e3 e5
                        have hTr : ∀ i, i < l3 → 0 ≤ T i ∧ T i < l5 := fun i hi => ⟨(ok i hi).1, (ok i hi).2.1⟩
                        refine CE_skip ?_
                        refine CE_seq ?_
                        refine CE_reg ?_
                        refine EL_p (Pu_mv rfl) rfl ?_
                        refine EL_L rfl (Lo_call ca12 rfl ((clone12 H2 s0 (by omega)).mono (fun y w4 hh => ?_)))
                        obtain ⟨z0, b0, hy, H4⟩ := hh
                        refine ⟨_, hy, ?_⟩
                        refine EL_p (Pu_as rfl) rfl ?_
                        refine EL_nil ?_
                        refine CE_seq ?_
                        refine CE_reg ?_
                        refine EL_p (Pu_mv rfl) rfl ?_
                        refine EL_L rfl (Lo_call ca13 rfl ((clone13 H4 s1 (by omega)).mono (fun y w5 hh => ?_)))
                        obtain ⟨z1, b1, hy, H5⟩ := hh
                        refine ⟨_, hy, ?_⟩
                        refine EL_p (Pu_as rfl) rfl ?_
                        refine EL_nil ?_
                        refine CE_seq ?_
                        refine CE_reg ?_
                        refine EL_p (Pu_mv rfl) rfl ?_
                        refine EL_L rfl (Lo_call ca14 rfl ((clone14 H5 s2 (by omega)).mono (fun y w6 hh => ?_)))
                        obtain ⟨z2, b2, hy, H6⟩ := hh
                        refine ⟨_, hy, ?_⟩
                        refine EL_p (Pu_as rfl) rfl ?_
                        refine EL_nil ?_
                        refine CE_seq ?_
                        refine CE_reg ?_
                        refine EL_p (Pu_mv rfl) rfl ?_
                        refine EL_L rfl (Lo_call ca14 rfl ((clone14 H6 s3 (by omega)).mono (fun y w7 hh => ?_)))
                        obtain ⟨z3, b3, hy, H7⟩ := hh
                        refine ⟨_, hy, ?_⟩
                        refine EL_p (Pu_as rfl) rfl ?_
                        refine EL_nil ?_
                        refine CE_seq ?_
                        refine CE_reg ?_
                        refine EL_p (Pu_mv rfl) rfl ?_
                        refine EL_L rfl (Lo_call ca15 rfl ((clone15 H7 s5 (by omega)).mono (fun y w8 hh => ?_)))
                        obtain ⟨z5, b5, hy, H8⟩ := hh
                        refine ⟨_, hy, ?_⟩
                        refine EL_p (Pu_as rfl) rfl ?_
                        refine EL_nil ?_
                        refine CE_seq ?_
                        refine CE_reg ?_
                        refine EL_p (Pu_mv rfl) rfl ?_
                        refine EL_L rfl (Lo_call ca13 rfl ((clone13 H8 s6 (by omega)).mono (fun y w9 hh => ?_)))
                        obtain ⟨z6, b6, hy, H9⟩ := hh
                        refine ⟨_, hy, ?_⟩
                        refine EL_p (Pu_as rfl) rfl ?_
                        refine EL_nil ?_
                        refine CE_seq ?_
                        refine CE_reg ?_
                        refine EL_p (Pu_mv rfl) rfl ?_
                        refine EL_p (Pu_mv rfl) rfl ?_
                        refine EL_p (Pu_mv rfl) rfl ?_
                        refine EL_p (Pu_mv rfl) rfl ?_
                        refine EL_p (Pu_mv rfl) rfl ?_
                        refine EL_p (Pu_mv rfl) rfl ?_
                        refine EL_p (Pu_mv rfl) rfl ?_
                        refine EL_L rfl (Lo_call ca16 rfl ((indexed16 H9 (List.mem_of_getElem? (i := 5) rfl) (by omega) rfl rfl rfl rfl rfl).mono (fun y w10 hh => ?_)))
                        obtain ⟨hb', ob, hy, H10⟩ := hh
                        refine ⟨_, hy, ?_⟩
                        obtain ⟨L, H11, hin, hact⟩ := H10.hist6 (fun p hp => (hTr p hp).1)
                        have hok := mkH_ok (hb := hb') (ob := ob) (z1 := z1) (b1 := b1) (z2 := z2) (b2 := b2) (z3 := z3) (b3 := b3) (z5 := z5) (b5 := b5) (ev := aval z6 b6 l6) (X := X) (B := B) (show l3 ≤ 4096 by omega) (show l5 ≤ 4096 by omega) (show m ≤ 65536 by omega) ok
                        refine EL_p (Pu_as rfl) rfl ?_
                        refine EL_nil ?_
                        refine CE_midG (fun (s : GS3) => [(0, aval s.B.z0 s.B.b0 s.h.n), (2, aval s.h.zt s.h.bt s.h.n), (3, aval s.h.zi s.h.bi s.h.n), (4, .int .i64 s.h.m), (5, aval s.h.za s.h.ba s.h.nt), (16, .pointer (some ⟨s.B.gb, 0, none⟩)), (1, aval s.h.zx s.h.bx s.h.nt), (15, .pointer (some ⟨s.h.hb, 0, none⟩))]) (fun s w' => ∃ M, HP w w' M ∧ GM s.h s.G s.B M ∧ GInv s.h s.G ∧ HOK s.h) ?_ (fun s w11 hmid => ?_)
                        · refine CE_reg ?_
                          refine EL_p (Pu_mv rfl) rfl ?_
                          refine EL_L rfl (Lo_call ca23 rfl ((newGraph23 H11 hin hok).mono (fun y w12 hh => ?_)))
                          obtain ⟨gb, ab, wb, tb, ub, G, hy, hg, H12⟩ := hh
                          refine ⟨_, hy, ?_⟩
                          refine EL_p (Pu_as rfl) rfl ?_
                          refine EL_nil ?_
                          exact ⟨⟨_, G, ⟨gb, ab, wb, tb, ub, z0, b0⟩⟩, ⟨_, H12, GM.ofGL hin hact, hg, hok⟩, rfl, rfl, rfl, rfl, rfl, rfl, rfl, rfl, trivial⟩
                        obtain ⟨M, HM, gm, gi, ho⟩ := hmid
                        have hon := ho.hn
                        have hont := ho.hnt
                        have hom := ho.hm
                        refine CE_seq ?_
                        refine CE_seq ?_
                        refine CE_reg ?_
                        refine EL_p (Pu_mv rfl) rfl ?_
                        refine EL_L rfl (Lo_call ca33 rfl ((gh33 HM gm).mono (fun y w12 hh => ⟨_, hh.1, ?_⟩)))
                        have H12 := hh.2
                        refine EL_p (Pu_mv rfl) rfl ?_
                        refine EL_p (Pu_neqP rfl rfl u33 sz59) rfl ?_
                        refine EL_nil ?_
                        first | refine CE_cP rfl (fun c152 => ?_) (fun c152 => ?_) | refine CE_cN rfl (fun c152 => ?_) (fun c152 => ?_) | refine CE_cond rfl (fun c152 => ?_) (fun c152 => ?_)
                        · cases c152 --stop
                        · refine CE_skip ?_
                          refine CE_seq ?_
                          refine CE_reg ?_
                          refine EL_p (Pu_mv rfl) rfl ?_
                          refine EL_p (Pu_len rfl sl22 rfl) rfl ?_
                          refine EL_p (Pu_as rfl) rfl ?_
                          refine EL_nil ?_
                          refine CE_seq ?_
                          refine CE_reg ?_
                          refine EL_p (Pu_mv rfl) rfl ?_
                          refine EL_p (Pu_len rfl sl23 rfl) rfl ?_
                          refine EL_p (Pu_as rfl) rfl ?_
                          refine EL_nil ?_
                          refine CE_seq ?_
                          refine CE_reg ?_
                          refine EL_p (Pu_as rfl) rfl ?_
                          refine EL_nil ?_
                          refine CE_seq ?_
                          refine CE_seq ?_
                          refine CE_reg ?_
                          refine EL_p (Pu_as rfl) rfl ?_
                          refine EL_nil ?_
                          refine CE_block ?_
                          refine CE_loop (fun (g : L6) w' => g.a ≤ s.h.nt ∧ RepI (g.Rq 0) (liveF s.h g.a) ∧ HP w w' (Fam 1 1 21 g.Rq :: M)) (fun g => [(0, aval s.B.z0 s.B.b0 s.h.n), (2, aval s.h.zt s.h.bt s.h.n), (3, aval s.h.zi s.h.bi s.h.n), (4, .int .i64 s.h.m), (5, aval s.h.za s.h.ba s.h.nt), (16, .pointer (some ⟨s.B.gb, 0, none⟩)), (17, .int .i64 s.h.n), (18, .int .i64 s.h.nt), (19, (g.Rq 0).val), (20, .int .i64 g.a)]) (fun g => s.h.nt - g.a) ⟨0, fun _ => nilRow⟩ ⟨Nat.zero_le _, RepI.nil, H12.famNil 1 1 21⟩ ⟨rfl, rfl, rfl, rfl, rfl, rfl, rfl, rfl, rfl, rfl, trivial⟩ ?_
                          rintro g w13 ⟨ha, hrep, H13⟩
                          have gm1 := gm.cons (Fam 1 1 21 g.Rq)
                          have hll := liveF_length s.h g.a
                          have hrl := hrep.len
                          refine CE_seq ?_
                          refine CE_seq ?_
                          refine CE_reg ?_
                          refine EL_p (Pu_mv rfl) rfl ?_
                          refine EL_p (Pu_mv rfl) rfl ?_
                          refine EL_p (Pu_lss rfl rfl) rfl ?_
                          refine EL_nil ?_
                          refine CE_cP rfl (fun c159 => ?_) (fun c159 => ?_)
                          · have hlt : g.a < s.h.nt := by omega
                            refine CE_skip ?_
                            refine CE_seq ?_
                            refine CE_block ?_
                            refine CE_seq ?_
                            refine CE_reg ?_
                            refine EL_p (Pu_mv rfl) rfl ?_
                            refine EL_p (Pu_mv rfl) rfl ?_
                            refine EL_p (Pu_ixA rfl rfl sl25 rfl hlt (H13.anzM gm1.inl.ma hlt)) rfl ?_
                            refine EL_ld rfl fl4 (H13.acellM gm1.inl.ma hlt) rfl ?_
                            refine EL_p (Pu_not rfl) rfl ?_
                            refine EL_nil ?_
                            refine CE_cB rfl (fun c166 => ?_) (fun c166 => ?_)
                            · refine CE_reg ?_
                              refine EL_p (Pu_mv rfl) rfl ?_
                              refine EL_p (Pu_mv rfl) rfl ?_
                              refine EL_p (Pu_cnv rfl in3 in21 (w32 (by omega))) rfl ?_
                              refine EL_L rfl (Lo_bs H13 rfl rfl Try.underlying24 ze21 (fun bt w14 H14 => ?_))
                              refine EL_L rfl (Lo_append (j := 0) (q := 0) H14 rfl (by decide) rfl rfl Try.underlying24 ze21 (by decide) (fun _ _ => rfl) (by omega) (by omega) (fun r' w15 hl15 hc15 H15 => ?_))
                              refine EL_p (Pu_as rfl) rfl ?_
                              refine EL_nil ?_
                              refine CE_reg ?_
                              refine EL_p (Pu_mv rfl) rfl ?_
                              refine EL_p (Pu_add rfl rfl (w64 (by omega))) rfl ?_
                              refine EL_p (Pu_as rfl) rfl ?_
                              refine EL_nil ?_
                              refine ⟨⟨g.a + 1, updR g.Rq 0 r'⟩, by dsimp only; omega, ⟨rfl, rfl, rfl, rfl, rfl, rfl, rfl, rfl, congrArg (fun r => some (Row.val r)) (updR_self g.Rq 0 r').symm, rfl, trivial⟩, hlt, ?_, H15⟩
                              show RepI (updR g.Rq 0 r' 0) (liveF s.h (g.a + 1))
                              rw [updR_self, liveF, if_neg (by rw [c166]; exact Bool.false_ne_true)]
                              exact hrep.app hl15 hc15 rfl
                            · refine CE_skip ?_
                              refine CE_reg ?_
                              refine EL_p (Pu_mv rfl) rfl ?_
                              refine EL_p (Pu_add rfl rfl (w64 (by omega))) rfl ?_
                              refine EL_p (Pu_as rfl) rfl ?_
                              refine EL_nil ?_
                              refine ⟨⟨g.a + 1, g.Rq⟩, by dsimp only; omega, ⟨rfl, rfl, rfl, rfl, rfl, rfl, rfl, rfl, rfl, rfl, trivial⟩, hlt, ?_, H13⟩
                              show RepI (g.Rq 0) (liveF s.h (g.a + 1))
                              rw [liveF, if_pos c166]
                              exact hrep
                          · have hgn : g.a = s.h.nt := by omega
                            rw [hgn] at hrep
                            refine CE_exit ?_
                            refine CE_seq ?_
                            refine CE_seq ?_
                            refine CE_reg ?_
                            refine EL_p (Pu_mv rfl) rfl ?_
                            refine EL_L rfl (Lo_call ca35 rfl ((live35 H13 gm1).mono (fun y w14 hh => ⟨_, hh.1, ?_⟩)))
                            have H14 := hh.2
                            refine EL_p (Pu_mv rfl) rfl ?_
                            refine EL_L rfl (Lo_call ca34 rfl ((same34 H14 gm1.fl (List.mem_cons_self) (by decide) (by decide) gi.live hrep (by have := liveF_length s.h s.h.nt; omega)).mono (fun y w15 hh => ⟨_, hh.1, ?_⟩)))
                            have H15 := hh.2.tail
                            refine EL_p (Pu_not rfl) rfl ?_
                            refine EL_nil ?_
                            refine CE_cB rfl (fun c176 => ?_) (fun c176 => ?_)
                            · cases c176 --stop
                            · refine CE_skip ?_
                              refine CE_seq ?_
                              refine CE_reg ?_
                              refine EL_p (Pu_mv rfl) rfl ?_
                              refine EL_L rfl (Lo_make1 (c := s.h.m) H15 rfl rfl rfl Try.underlying41 ze24 rfl (by omega) (by omega) (fun qa w16 H16 => ?_))
                              refine EL_p (Pu_as rfl) rfl ?_
                              refine EL_nil ?_
                              refine CE_seq ?_
                              refine CE_reg ?_
                              refine EL_p (Pu_mv rfl) rfl ?_
                              refine EL_L rfl (Lo_make1 (c := s.h.m) H16 rfl rfl rfl Try.underlying41 ze24 rfl (by omega) (by omega) (fun qw w17 H17 => ?_))
                              refine EL_p (Pu_as rfl) rfl ?_
                              refine EL_nil ?_
                              refine CE_seq ?_
                              refine CE_reg ?_
                              refine EL_p (Pu_mv rfl) rfl ?_
                              refine EL_L rfl (Lo_make1 (c := s.h.nt) H17 rfl rfl rfl Try.underlying41 ze24 rfl (by omega) (by omega) (fun qo w18 H18 => ?_))
                              refine EL_p (Pu_as rfl) rfl ?_
                              refine EL_nil ?_
                              refine CE_seq ?_
                              refine CE_reg ?_
                              refine EL_p (Pu_mv rfl) rfl ?_
                              refine EL_L rfl (Lo_make1 (c := s.h.nt) H18 rfl rfl rfl Try.underlying41 ze24 rfl (by omega) (by omega) (fun qt w19 H19 => ?_))
                              refine EL_p (Pu_as rfl) rfl ?_
                              refine EL_nil ?_
                              refine CE_seq ?_
                              refine CE_seq ?_
                              refine CE_reg ?_
                              refine EL_p (Pu_as rfl) rfl ?_
                              refine EL_nil ?_
                              refine CE_block ?_
                              have H20 : HP w w19 (Fam s.h.nt 1 21 ((fun _ => nilRow)) :: Fam s.h.nt 1 21 ((fun _ => nilRow)) :: Fam s.h.m 1 21 ((fun _ => nilRow)) :: Fam s.h.m 1 21 ((fun _ => nilRow)) :: Blk qt s.h.nt (hdr ((fun _ => nilRow))) :: Blk qo s.h.nt (hdr ((fun _ => nilRow))) :: Blk qw s.h.m (hdr ((fun _ => nilRow))) :: Blk qa s.h.m (hdr ((fun _ => nilRow))) :: M) := (((H19.famNil s.h.m 1 21).famNil s.h.m 1 21).famNil s.h.nt 1 21).famNil s.h.nt 1 21
                              refine CE_loop (fun (g : M8) w' => g.p ≤ s.h.n ∧ I8 s.h g ∧ HP w w' (Fam s.h.nt 1 21 (g.Rt) :: Fam s.h.nt 1 21 (g.Ro) :: Fam s.h.m 1 21 (g.Rw) :: Fam s.h.m 1 21 (g.Ra) :: Blk qt s.h.nt (hdr (g.Rt)) :: Blk qo s.h.nt (hdr (g.Ro)) :: Blk qw s.h.m (hdr (g.Rw)) :: Blk qa s.h.m (hdr (g.Ra)) :: M)) (fun g => [(0, aval s.B.z0 s.B.b0 s.h.n), (2, aval s.h.zt s.h.bt s.h.n), (3, aval s.h.zi s.h.bi s.h.n), (4, .int .i64 s.h.m), (5, aval s.h.za s.h.ba s.h.nt), (16, .pointer (some ⟨s.B.gb, 0, none⟩)), (17, .int .i64 s.h.n), (18, .int .i64 s.h.nt), (21, .slice (some ⟨qa, 0, none⟩) s.h.m s.h.m), (22, .slice (some ⟨qw, 0, none⟩) s.h.m s.h.m), (23, .slice (some ⟨qo, 0, none⟩) s.h.nt s.h.nt), (24, .slice (some ⟨qt, 0, none⟩) s.h.nt s.h.nt), (25, .int .i64 g.p)]) (fun g => s.h.n - g.p) ⟨0, fun _ => nilRow, fun _ => nilRow, fun _ => nilRow, fun _ => nilRow⟩ ⟨Nat.zero_le _, ⟨fun _ _ => RepI.nil, fun _ _ => RepI.nil, fun _ _ => RepI.nil, fun _ _ => RepI.nil⟩, H20⟩ ⟨rfl, rfl, rfl, rfl, rfl, rfl, rfl, rfl, rfl, rfl, rfl, rfl, rfl, trivial⟩ ?_
                              rintro g w20 ⟨hp, hi, H21⟩
                              have gmA : GM s.h s.G s.B (Fam s.h.nt 1 21 (g.Rt) :: Fam s.h.nt 1 21 (g.Ro) :: Fam s.h.m 1 21 (g.Rw) :: Fam s.h.m 1 21 (g.Ra) :: Blk qt s.h.nt (hdr (g.Rt)) :: Blk qo s.h.nt (hdr (g.Ro)) :: Blk qw s.h.m (hdr (g.Rw)) :: Blk qa s.h.m (hdr (g.Ra)) :: M) := ((((((((gm.cons _).cons _).cons _).cons _).cons _).cons _).cons _).cons _)
                              refine CE_seq ?_
                              refine CE_seq ?_
                              refine CE_reg ?_
                              refine EL_p (Pu_mv rfl) rfl ?_
                              refine EL_p (Pu_mv rfl) rfl ?_
                              refine EL_p (Pu_lss rfl rfl) rfl ?_
                              refine EL_nil ?_
                              refine CE_cP rfl (fun c187 => ?_) (fun c187 => ?_)
                              · have hlt : g.p < s.h.n := by omega
                                have hTp := (ho.ok g.p hlt).1
                                have hok := (ho.ok g.p hlt).2
                                refine CE_skip ?_
                                refine CE_seq ?_
                                refine CE_block ?_
                                refine CE_seq ?_
                                refine CE_reg ?_
                                refine EL_p (Pu_mv rfl) rfl ?_
                                refine EL_p (Pu_mv rfl) rfl ?_
                                refine EL_p (Pu_ixA rfl rfl sl24 rfl hlt (H21.anzM gmA.inl.mi hlt)) rfl ?_
                                refine EL_ld rfl fl21 (H21.acellM gmA.inl.mi hlt) rfl ?_
                                refine EL_p (Pu_as rfl) rfl ?_
                                refine EL_nil ?_
                                refine CE_seq ?_
                                refine CE_reg ?_
                                refine EL_p (Pu_mv rfl) rfl ?_
                                refine EL_p (Pu_mv rfl) rfl ?_
                                refine EL_p (Pu_ixA rfl rfl sl24 rfl hlt (H21.anzM gmA.inl.mt hlt)) rfl ?_
                                refine EL_ld rfl fl21 (H21.acellM gmA.inl.mt hlt) rfl ?_
                                refine EL_p (Pu_as rfl) rfl ?_
                                refine EL_nil ?_
                                refine CE_midG (fun (x : Nat) => [(0, aval s.B.z0 s.B.b0 s.h.n), (2, aval s.h.zt s.h.bt s.h.n), (3, aval s.h.zi s.h.bi s.h.n), (4, .int .i64 s.h.m), (5, aval s.h.za s.h.ba s.h.nt), (16, .pointer (some ⟨s.B.gb, 0, none⟩)), (17, .int .i64 s.h.n), (18, .int .i64 s.h.nt), (21, .slice (some ⟨qa, 0, none⟩) s.h.m s.h.m), (22, .slice (some ⟨qw, 0, none⟩) s.h.m s.h.m), (23, .slice (some ⟨qo, 0, none⟩) s.h.nt s.h.nt), (24, .slice (some ⟨qt, 0, none⟩) s.h.nt s.h.nt), (25, .int .i64 g.p), (26, .int .i32 x), (27, .int .i32 (s.h.T g.p))]) (fun x w' => s.h.I g.p = (x : Nat) ∧ x < s.h.m ∧ lvB s.h g.p = true ∧ HP w w' (Fam s.h.nt 1 21 (g.Rt) :: Fam s.h.nt 1 21 (g.Ro) :: Fam s.h.m 1 21 (g.Rw) :: Fam s.h.m 1 21 (g.Ra) :: Blk qt s.h.nt (hdr (g.Rt)) :: Blk qo s.h.nt (hdr (g.Ro)) :: Blk qw s.h.m (hdr (g.Rw)) :: Blk qa s.h.m (hdr (g.Ra)) :: M)) ?_ (fun x w21 hmid => ?_)
                                · refine CE_seq ?_
                                  refine CE_reg ?_
                                  refine EL_p (Pu_mv rfl) rfl ?_
                                  refine EL_p (Pu_lss rfl rfl) rfl ?_
                                  refine EL_p (Pu_mv rfl) rfl ?_
                                  refine EL_gP rfl rfl (fun g200 => ?_) (fun g200 => ?_)
                                  · refine EL_no rfl rfl rfl rfl ?_
                                    refine EL_no rfl rfl rfl rfl ?_
                                    refine EL_no rfl rfl rfl rfl ?_
                                    refine EL_no rfl rfl rfl rfl ?_
                                    refine EL_p (Pu_pt rfl rfl) rfl ?_
                                    refine EL_nil ?_
                                    refine CE_cond_t rfl ?_
                                    refine CE_exit ?_
                                    refine CE_reg ?_
                                    refine EL_p (Pu_mv rfl) rfl ?_
                                    refine EL_p (Pu_add rfl rfl (w64 (by omega))) rfl ?_
                                    refine EL_p (Pu_as rfl) rfl ?_
                                    refine EL_nil ?_
                                    exact ⟨{ g with p := g.p + 1 }, by dsimp only; omega, ⟨rfl, rfl, rfl, rfl, rfl, rfl, rfl, rfl, rfl, rfl, rfl, rfl, rfl, trivial⟩, hlt, hi.skip (lvB_neg g200), H21⟩
                                  · refine EL_yes rfl rfl ?_
                                    refine EL_p (Pu_mv rfl) rfl ?_
                                    refine EL_yes rfl rfl ?_
                                    refine EL_p (Pu_mv rfl) rfl ?_
                                    refine EL_yes rfl rfl ?_
                                    refine EL_p (Pu_ixA rfl rfl sl25 rfl hTp (H21.anzM gmA.inl.ma hTp)) rfl ?_
                                    refine EL_yes rfl rfl ?_
                                    refine EL_ld rfl fl4 (H21.acellM gmA.inl.ma hTp) rfl ?_
                                    refine EL_p (Pu_pf rfl rfl) rfl ?_
                                    refine EL_nil ?_
                                    refine CE_cond rfl (fun c205 => ?_) (fun c205 => ?_)
                                    · refine CE_exit ?_
                                      refine CE_reg ?_
                                      refine EL_p (Pu_mv rfl) rfl ?_
                                      refine EL_p (Pu_add rfl rfl (w64 (by omega))) rfl ?_
                                      refine EL_p (Pu_as rfl) rfl ?_
                                      refine EL_nil ?_
                                      exact ⟨{ g with p := g.p + 1 }, by dsimp only; omega, ⟨rfl, rfl, rfl, rfl, rfl, rfl, rfl, rfl, rfl, rfl, rfl, rfl, rfl, trivial⟩, hlt, hi.skip (lvB_ab c205), H21⟩
                                    · refine CE_skip ?_
                                      obtain ⟨x, hx⟩ : ∃ x : Nat, s.h.I g.p = x := ⟨(s.h.I g.p).toNat, by omega⟩
                                      have hxm : x < s.h.m := by omega
                                      exact ⟨x, ⟨hx, hxm, lvB_yes (by omega) c205, H21⟩, rfl, rfl, rfl, rfl, rfl, rfl, rfl, rfl, rfl, rfl, rfl, rfl, rfl, congrArg (fun z => some (Value.int .i32 z)) hx, rfl, trivial⟩
                                obtain ⟨hx, hxm, hl, H22⟩ := hmid
                                have hacc := hi.acc x hxm
                                have haccl := hacc.len
                                have haccl2 := accF_length s.h x g.p
                                have hwrs := hi.wrs x hxm
                                have hwrsl := hwrs.len
                                have hwrsl2 := wrsF_length s.h x g.p
                                have hxs := hi.xs _ hTp
                                have hxsl := hxs.len
                                have hxsl2 := xsF_length s.h (s.h.T g.p) g.p
                                refine CE_seq ?_
                                refine CE_reg ?_
                                refine EL_p (Pu_mv rfl) rfl ?_
                                refine EL_p (Pu_mv rfl) rfl ?_
                                refine EL_p (Pu_mv rfl) rfl ?_
                                refine EL_p (Pu_mv rfl) rfl ?_
                                refine EL_p (Pu_ix rfl rfl sl41 rfl hxm) rfl ?_
                                refine EL_ld rfl fl24 (H22.cell (j := 7) rfl hxm) rfl ?_
                                refine EL_p (Pu_mv rfl) rfl ?_
                                refine EL_L rfl (Lo_bs H22 rfl rfl Try.underlying24 ze21 (fun bt w22 H23 => ?_))
                                refine EL_L rfl (Lo_append (j := 3) (q := x) H23 rfl hxm rfl rfl Try.underlying24 ze21 (by decide) (fun _ _ => rfl) (by omega) (by omega) (fun ra w23 hl23 hc23 H24 => ?_))
                                refine EL_p (Pu_ix rfl rfl sl41 rfl hxm) rfl ?_
                                refine EL_L0 (Lo_st (j := 7) (i := x) H24 rfl rfl rfl fl24 rfl hxm (fun w24 H25 => ?_))
                                have H26 : HP w w24 (Fam s.h.nt 1 21 (g.Rt) :: Fam s.h.nt 1 21 (g.Ro) :: Fam s.h.m 1 21 (g.Rw) :: Fam s.h.m 1 21 (updR g.Ra x ra) :: Blk qt s.h.nt (hdr (g.Rt)) :: Blk qo s.h.nt (hdr (g.Ro)) :: Blk qw s.h.m (hdr (g.Rw)) :: Blk qa s.h.m (hdr (updR g.Ra x ra)) :: M) := H25.congr (j := 7) rfl (fun k _ => hdr_upd _ _ _ _)
                                have hacc2 := acc_next hl hx hi.acc (hacc.app hl23 hc23 rfl)
                                have gmB : GM s.h s.G s.B (Fam s.h.nt 1 21 (g.Rt) :: Fam s.h.nt 1 21 (g.Ro) :: Fam s.h.m 1 21 (g.Rw) :: Fam s.h.m 1 21 (updR g.Ra x ra) :: Blk qt s.h.nt (hdr (g.Rt)) :: Blk qo s.h.nt (hdr (g.Ro)) :: Blk qw s.h.m (hdr (g.Rw)) :: Blk qa s.h.m (hdr (updR g.Ra x ra)) :: M) := ((((((((gm.cons _).cons _).cons _).cons _).cons _).cons _).cons _).cons _)
                                refine EL_nil ?_
                                refine CE_midI ([(0, aval s.B.z0 s.B.b0 s.h.n), (2, aval s.h.zt s.h.bt s.h.n), (3, aval s.h.zi s.h.bi s.h.n), (4, .int .i64 s.h.m), (5, aval s.h.za s.h.ba s.h.nt), (16, .pointer (some ⟨s.B.gb, 0, none⟩)), (17, .int .i64 s.h.n), (18, .int .i64 s.h.nt), (21, .slice (some ⟨qa, 0, none⟩) s.h.m s.h.m), (22, .slice (some ⟨qw, 0, none⟩) s.h.m s.h.m), (23, .slice (some ⟨qo, 0, none⟩) s.h.nt s.h.nt), (24, .slice (some ⟨qt, 0, none⟩) s.h.nt s.h.nt), (25, .int .i64 g.p), (26, .int .i32 x), (27, .int .i32 (s.h.T g.p))]) (fun w' => ∃ Rw' : Nat → Row, (∀ y, y < s.h.m → RepI (Rw' y) (wrsF s.h y (g.p + 1))) ∧ HP w w' (Fam s.h.nt 1 21 (g.Rt) :: Fam s.h.nt 1 21 (g.Ro) :: Fam s.h.m 1 21 (Rw') :: Fam s.h.m 1 21 (updR g.Ra x ra) :: Blk qt s.h.nt (hdr (g.Rt)) :: Blk qo s.h.nt (hdr (g.Ro)) :: Blk qw s.h.m (hdr (Rw')) :: Blk qa s.h.m (hdr (updR g.Ra x ra)) :: M)) ?_ (fun w25 hmid => ?_)
                                · refine CE_seq ?_
                                  refine CE_reg ?_
                                  refine EL_p (Pu_mv rfl) rfl ?_
                                  refine EL_p (Pu_mv rfl) rfl ?_
                                  refine EL_p (Pu_ixA rfl rfl sl22 rfl hlt (H26.anzM gmB.act hlt)) rfl ?_
                                  refine EL_ld rfl fl5 (H26.acellM gmB.act hlt) rfl ?_
                                  refine EL_p (Pu_eql rfl rfl) rfl ?_
                                  refine EL_nil ?_
                                  refine CE_cP rfl (fun c220 => ?_) (fun c220 => ?_)
                                  · refine CE_reg ?_
                                    refine EL_p (Pu_mv rfl) rfl ?_
                                    refine EL_p (Pu_mv rfl) rfl ?_
                                    refine EL_p (Pu_mv rfl) rfl ?_
                                    refine EL_p (Pu_mv rfl) rfl ?_
                                    refine EL_p (Pu_ix rfl rfl sl41 rfl hxm) rfl ?_
                                    refine EL_ld rfl fl24 (H26.cell (j := 6) rfl hxm) rfl ?_
                                    refine EL_p (Pu_mv rfl) rfl ?_
                                    refine EL_L rfl (Lo_bs H26 rfl rfl Try.underlying24 ze21 (fun bt w25 H27 => ?_))
                                    refine EL_L rfl (Lo_append (j := 2) (q := x) H27 rfl hxm rfl rfl Try.underlying24 ze21 (by decide) (fun _ _ => rfl) (by omega) (by omega) (fun rw' w26 hl26 hc26 H28 => ?_))
                                    refine EL_p (Pu_ix rfl rfl sl41 rfl hxm) rfl ?_
                                    refine EL_L0 (Lo_st (j := 6) (i := x) H28 rfl rfl rfl fl24 rfl hxm (fun w27 H29 => ?_))
                                    refine EL_nil ?_
                                    exact ⟨⟨updR g.Rw x rw', wrs_next hl hx c220 hi.wrs (hwrs.app hl26 hc26 rfl), H29.congr (j := 6) rfl (fun k _ => hdr_upd _ _ _ _)⟩, rfl, rfl, rfl, rfl, rfl, rfl, rfl, rfl, rfl, rfl, rfl, rfl, rfl, rfl, rfl, trivial⟩
                                  · refine CE_skip ?_
                                    exact ⟨⟨g.Rw, wrs_same c220 hi.wrs, H26⟩, rfl, rfl, rfl, rfl, rfl, rfl, rfl, rfl, rfl, rfl, rfl, rfl, rfl, rfl, rfl, trivial⟩
                                obtain ⟨Rw', hRw, H27⟩ := hmid
                                have gmC : GM s.h s.G s.B (Fam s.h.nt 1 21 (g.Rt) :: Fam s.h.nt 1 21 (g.Ro) :: Fam s.h.m 1 21 (Rw') :: Fam s.h.m 1 21 (updR g.Ra x ra) :: Blk qt s.h.nt (hdr (g.Rt)) :: Blk qo s.h.nt (hdr (g.Ro)) :: Blk qw s.h.m (hdr (Rw')) :: Blk qa s.h.m (hdr (updR g.Ra x ra)) :: M) := ((((((((gm.cons _).cons _).cons _).cons _).cons _).cons _).cons _).cons _)
                                refine CE_seq ?_
                                refine CE_reg ?_
                                refine EL_p (Pu_as rfl) rfl ?_
                                refine EL_nil ?_
                                refine CE_midG (fun (f' : Bool) => [(0, aval s.B.z0 s.B.b0 s.h.n), (2, aval s.h.zt s.h.bt s.h.n), (3, aval s.h.zi s.h.bi s.h.n), (4, .int .i64 s.h.m), (5, aval s.h.za s.h.ba s.h.nt), (16, .pointer (some ⟨s.B.gb, 0, none⟩)), (17, .int .i64 s.h.n), (18, .int .i64 s.h.nt), (21, .slice (some ⟨qa, 0, none⟩) s.h.m s.h.m), (22, .slice (some ⟨qw, 0, none⟩) s.h.m s.h.m), (23, .slice (some ⟨qo, 0, none⟩) s.h.nt s.h.nt), (24, .slice (some ⟨qt, 0, none⟩) s.h.nt s.h.nt), (25, .int .i64 g.p), (26, .int .i32 x), (27, .int .i32 (s.h.T g.p)), (28, .bool f')]) (fun f' w' => (f' = true ↔ ¬ ∃ q, q < g.p ∧ s.h.T q = s.h.T g.p ∧ s.h.I q = (x : Nat)) ∧ HP w w' (Fam s.h.nt 1 21 (g.Rt) :: Fam s.h.nt 1 21 (g.Ro) :: Fam s.h.m 1 21 (Rw') :: Fam s.h.m 1 21 (updR g.Ra x ra) :: Blk qt s.h.nt (hdr (g.Rt)) :: Blk qo s.h.nt (hdr (g.Ro)) :: Blk qw s.h.m (hdr (Rw')) :: Blk qa s.h.m (hdr (updR g.Ra x ra)) :: M)) ?_ (fun f' w26 hmid => ?_)
                                · refine CE_seq ?_
                                  refine CE_reg ?_
                                  refine EL_p (Pu_as rfl) rfl ?_
                                  refine EL_nil ?_
                                  refine CE_block ?_
                                  refine CE_loop (fun (k : Nat) w' => k ≤ g.p ∧ (¬ ∃ q, q < k ∧ s.h.T q = s.h.T g.p ∧ s.h.I q = (x : Nat)) ∧ HP w w' (Fam s.h.nt 1 21 (g.Rt) :: Fam s.h.nt 1 21 (g.Ro) :: Fam s.h.m 1 21 (Rw') :: Fam s.h.m 1 21 (updR g.Ra x ra) :: Blk qt s.h.nt (hdr (g.Rt)) :: Blk qo s.h.nt (hdr (g.Ro)) :: Blk qw s.h.m (hdr (Rw')) :: Blk qa s.h.m (hdr (updR g.Ra x ra)) :: M)) (fun k => [(0, aval s.B.z0 s.B.b0 s.h.n), (2, aval s.h.zt s.h.bt s.h.n), (3, aval s.h.zi s.h.bi s.h.n), (4, .int .i64 s.h.m), (5, aval s.h.za s.h.ba s.h.nt), (16, .pointer (some ⟨s.B.gb, 0, none⟩)), (17, .int .i64 s.h.n), (18, .int .i64 s.h.nt), (21, .slice (some ⟨qa, 0, none⟩) s.h.m s.h.m), (22, .slice (some ⟨qw, 0, none⟩) s.h.m s.h.m), (23, .slice (some ⟨qo, 0, none⟩) s.h.nt s.h.nt), (24, .slice (some ⟨qt, 0, none⟩) s.h.nt s.h.nt), (25, .int .i64 g.p), (26, .int .i32 x), (27, .int .i32 (s.h.T g.p)), (28, .bool true), (29, .int .i64 k)]) (fun k => g.p - k) 0 ⟨Nat.zero_le _, (fun ⟨q, hq, _⟩ => absurd hq (Nat.not_lt_zero q)), H27⟩ ⟨rfl, rfl, rfl, rfl, rfl, rfl, rfl, rfl, rfl, rfl, rfl, rfl, rfl, rfl, rfl, rfl, rfl, trivial⟩ ?_
                                  rintro k w26 ⟨hk, hno, H28⟩
                                  refine CE_seq ?_
                                  refine CE_seq ?_
                                  refine CE_reg ?_
                                  refine EL_p (Pu_mv rfl) rfl ?_
                                  refine EL_p (Pu_mv rfl) rfl ?_
                                  refine EL_p (Pu_lss rfl rfl) rfl ?_
                                  refine EL_nil ?_
                                  refine CE_cP rfl (fun c233 => ?_) (fun c233 => ?_)
                                  · have hkl : k < g.p := by omega
                                    have hkn : k < s.h.n := by omega
                                    refine CE_skip ?_
                                    refine CE_seq ?_
                                    refine CE_block ?_
                                    refine CE_seq ?_
                                    refine CE_reg ?_
                                    refine EL_p (Pu_mv rfl) rfl ?_
                                    refine EL_p (Pu_mv rfl) rfl ?_
                                    first | (refine EL_p (Pu_ixA rfl rfl sl24 rfl hkn (H28.anzM gmC.inl.mt hkn)) rfl ?_) | (refine EL_p (Pu_ixA rfl rfl sl24 rfl hkn (H28.anzM gmC.inl.mi hkn)) rfl ?_)
                                    first | (refine EL_ld rfl fl21 (H28.acellM gmC.inl.mt hkn) rfl ?_) | (refine EL_ld rfl fl21 (H28.acellM gmC.inl.mi hkn) rfl ?_)
                                    refine EL_p (Pu_mv rfl) rfl ?_
                                    refine EL_p (Pu_eql rfl rfl) rfl ?_
                                    refine EL_p (Pu_mv rfl) rfl ?_
                                    refine EL_gP rfl rfl (fun g242 => ?_) (fun g242 => ?_)
                                    · refine EL_yes rfl rfl ?_
                                      refine EL_p (Pu_mv rfl) rfl ?_
                                      refine EL_yes rfl rfl ?_
                                      refine EL_p (Pu_mv rfl) rfl ?_
                                      refine EL_yes rfl rfl ?_
                                      first | (refine EL_p (Pu_ixA rfl rfl sl24 rfl hkn (H28.anzM gmC.inl.mt hkn)) rfl ?_) | (refine EL_p (Pu_ixA rfl rfl sl24 rfl hkn (H28.anzM gmC.inl.mi hkn)) rfl ?_)
                                      refine EL_yes rfl rfl ?_
                                      first | (refine EL_ld rfl fl21 (H28.acellM gmC.inl.mt hkn) rfl ?_) | (refine EL_ld rfl fl21 (H28.acellM gmC.inl.mi hkn) rfl ?_)
                                      refine EL_yes rfl rfl ?_
                                      refine EL_p (Pu_mv rfl) rfl ?_
                                      refine EL_yes rfl rfl ?_
                                      refine EL_p (Pu_eql rfl rfl) rfl ?_
                                      refine EL_p (Pu_pt rfl rfl) rfl ?_
                                      refine EL_nil ?_
                                      refine CE_cP rfl (fun c249 => ?_) (fun c249 => ?_)
                                      · refine CE_seq ?_
                                        refine CE_reg ?_
                                        refine EL_p (Pu_as rfl) rfl ?_
                                        refine EL_nil ?_
                                        refine CE_exit ?_
                                        exact ⟨false, ⟨⟨fun hh => Bool.noConfusion hh, fun hh => absurd ⟨k, hkl, Int.ofNat.inj g242, c249⟩ hh⟩, H28⟩, rfl, rfl, rfl, rfl, rfl, rfl, rfl, rfl, rfl, rfl, rfl, rfl, rfl, rfl, rfl, rfl, trivial⟩
                                      · refine CE_skip ?_
                                        refine CE_reg ?_
                                        refine EL_p (Pu_mv rfl) rfl ?_
                                        refine EL_p (Pu_add rfl rfl (w64 (by omega))) rfl ?_
                                        refine EL_p (Pu_as rfl) rfl ?_
                                        refine EL_nil ?_
                                        refine ⟨k + 1, by omega, ⟨rfl, rfl, rfl, rfl, rfl, rfl, rfl, rfl, rfl, rfl, rfl, rfl, rfl, rfl, rfl, rfl, rfl, trivial⟩, hkl, ?_, H28⟩
                                        rintro ⟨q, h1, h2, h3⟩
                                        by_cases h4 : q = k
                                        · subst h4; exact c249 h3
                                        · exact hno ⟨q, by omega, h2, h3⟩
                                    · refine EL_no rfl rfl rfl rfl ?_
                                      refine EL_no rfl rfl rfl rfl ?_
                                      refine EL_no rfl rfl rfl rfl ?_
                                      refine EL_no rfl rfl rfl rfl ?_
                                      refine EL_no rfl rfl rfl rfl ?_
                                      refine EL_no rfl rfl rfl rfl ?_
                                      refine EL_p (Pu_pf rfl rfl) rfl ?_
                                      refine EL_nil ?_
                                      refine CE_cond_f rfl ?_
                                      refine CE_skip ?_
                                      refine CE_reg ?_
                                      refine EL_p (Pu_mv rfl) rfl ?_
                                      refine EL_p (Pu_add rfl rfl (w64 (by omega))) rfl ?_
                                      refine EL_p (Pu_as rfl) rfl ?_
                                      refine EL_nil ?_
                                      refine ⟨k + 1, by omega, ⟨rfl, rfl, rfl, rfl, rfl, rfl, rfl, rfl, rfl, rfl, rfl, rfl, rfl, rfl, rfl, rfl, rfl, trivial⟩, hkl, ?_, H28⟩
                                      rintro ⟨q, h1, h2, h3⟩
                                      by_cases h4 : q = k
                                      · subst h4; exact g242 (congrArg Int.ofNat h2)
                                      · exact hno ⟨q, by omega, h2, h3⟩
                                  · refine CE_exit ?_
                                    have hkp : k = g.p := by omega
                                    rw [hkp] at hno
                                    exact ⟨true, ⟨⟨fun _ => hno, fun _ => rfl⟩, H28⟩, rfl, rfl, rfl, rfl, rfl, rfl, rfl, rfl, rfl, rfl, rfl, rfl, rfl, rfl, rfl, rfl, trivial⟩
                                obtain ⟨hf, H28⟩ := hmid
                                have hmem := xsF_mem s.h (s.h.T g.p) x g.p
                                have hB := lvB_B hl
                                have hmem2 : x ∈ xsF s.h (s.h.T g.p) g.p ↔ ∃ q, q < g.p ∧ s.h.T q = s.h.T g.p ∧ s.h.I q = (x : Nat) := by
                                  rw [hmem]
                                  constructor
                                  · rintro ⟨q, h1, h2, h3, h4⟩
                                    have h5 := lvB_I h2
                                    refine ⟨q, h1, h3, ?_⟩
                                    unfold itm at h4; omega
                                  · rintro ⟨q, h1, h2, h3⟩
                                    exact ⟨q, h1, lvB_yes (by omega) (by rw [h2]; exact hB), h2, itm_eq h3⟩
                                refine CE_midI ([(0, aval s.B.z0 s.B.b0 s.h.n), (2, aval s.h.zt s.h.bt s.h.n), (3, aval s.h.zi s.h.bi s.h.n), (4, .int .i64 s.h.m), (5, aval s.h.za s.h.ba s.h.nt), (16, .pointer (some ⟨s.B.gb, 0, none⟩)), (17, .int .i64 s.h.n), (18, .int .i64 s.h.nt), (21, .slice (some ⟨qa, 0, none⟩) s.h.m s.h.m), (22, .slice (some ⟨qw, 0, none⟩) s.h.m s.h.m), (23, .slice (some ⟨qo, 0, none⟩) s.h.nt s.h.nt), (24, .slice (some ⟨qt, 0, none⟩) s.h.nt s.h.nt), (25, .int .i64 g.p), (26, .int .i32 x), (27, .int .i32 (s.h.T g.p))]) (fun w' => ∃ Rt' : Nat → Row, (∀ t, t < s.h.nt → RepI (Rt' t) (xsF s.h t (g.p + 1))) ∧ HP w w' (Fam s.h.nt 1 21 (Rt') :: Fam s.h.nt 1 21 (g.Ro) :: Fam s.h.m 1 21 (Rw') :: Fam s.h.m 1 21 (updR g.Ra x ra) :: Blk qt s.h.nt (hdr (Rt')) :: Blk qo s.h.nt (hdr (g.Ro)) :: Blk qw s.h.m (hdr (Rw')) :: Blk qa s.h.m (hdr (updR g.Ra x ra)) :: M)) ?_ (fun w27 hmid => ?_)
                                · refine CE_seq ?_
                                  refine CE_reg ?_
                                  refine EL_p (Pu_mv rfl) rfl ?_
                                  refine EL_nil ?_
                                  first | refine CE_cP rfl (fun c250 => ?_) (fun c250 => ?_) | refine CE_cN rfl (fun c250 => ?_) (fun c250 => ?_) | refine CE_cond rfl (fun c250 => ?_) (fun c250 => ?_)
                                  · refine CE_reg ?_
                                    refine EL_p (Pu_mv rfl) rfl ?_
                                    refine EL_p (Pu_mv rfl) rfl ?_
                                    refine EL_p (Pu_mv rfl) rfl ?_
                                    refine EL_p (Pu_mv rfl) rfl ?_
                                    refine EL_p (Pu_ix rfl rfl sl41 rfl hTp) rfl ?_
                                    refine EL_ld rfl fl24 (H28.cell (j := 4) rfl hTp) rfl ?_
                                    refine EL_p (Pu_mv rfl) rfl ?_
                                    refine EL_L rfl (Lo_bs H28 rfl rfl Try.underlying24 ze21 (fun bt w27 H29 => ?_))
                                    refine EL_L rfl (Lo_append (j := 0) (q := s.h.T g.p) H29 rfl hTp rfl rfl Try.underlying24 ze21 (by decide) (fun _ _ => rfl) (by omega) (by omega) (fun rt w28 hl28 hc28 H30 => ?_))
                                    refine EL_p (Pu_ix rfl rfl sl41 rfl hTp) rfl ?_
                                    refine EL_L0 (Lo_st (j := 4) (i := s.h.T g.p) H30 rfl rfl rfl fl24 rfl hTp (fun w29 H31 => ?_))
                                    refine EL_nil ?_
                                    exact ⟨⟨updR g.Rt (s.h.T g.p) rt, xs_next hl hx (fun hh => (hf.1 c250) (hmem2.1 hh)) hi.xs (hxs.app hl28 hc28 rfl), H31.congr (j := 4) rfl (fun k _ => hdr_upd _ _ _ _)⟩, rfl, rfl, rfl, rfl, rfl, rfl, rfl, rfl, rfl, rfl, rfl, rfl, rfl, rfl, rfl, trivial⟩
                                  · refine CE_skip ?_
                                    refine ⟨⟨g.Rt, xs_same hx ?_ hi.xs, H28⟩, rfl, rfl, rfl, rfl, rfl, rfl, rfl, rfl, rfl, rfl, rfl, rfl, rfl, rfl, rfl, trivial⟩
                                    refine hmem2.2 (Classical.byContradiction fun hh => ?_)
                                    rw [hf.2 hh] at c250
                                    cases c250
                                obtain ⟨Rt', hRt, H29⟩ := hmid
                                have gmD : GM s.h s.G s.B (Fam s.h.nt 1 21 (Rt') :: Fam s.h.nt 1 21 (g.Ro) :: Fam s.h.m 1 21 (Rw') :: Fam s.h.m 1 21 (updR g.Ra x ra) :: Blk qt s.h.nt (hdr (Rt')) :: Blk qo s.h.nt (hdr (g.Ro)) :: Blk qw s.h.m (hdr (Rw')) :: Blk qa s.h.m (hdr (updR g.Ra x ra)) :: M) := ((((((((gm.cons _).cons _).cons _).cons _).cons _).cons _).cons _).cons _)
                                refine CE_seq ?_
                                have hlr := llwF_rng s.h x g.p
                                have hwl := wrtF_llw s.h x g.p
                                have hitm := itm_eq hx
                                refine CE_reg ?_
                                refine EL_p (Pu_mv rfl) rfl ?_
                                refine EL_p (Pu_mv rfl) rfl ?_
                                refine EL_p (Pu_mv rfl) rfl ?_
                                refine EL_p (Pu_mv rfl) rfl ?_
                                refine EL_p (Pu_mv rfl) rfl ?_
                                refine EL_L rfl (Lo_call ca36 rfl ((llw36 H29 gmD ho hlt hx).mono (fun y w28 hh => ⟨_, hh.1, ?_⟩)))
                                have H30 := hh.2
                                refine EL_p (Pu_as rfl) rfl ?_
                                refine EL_nil ?_
                                refine CE_midI ([(0, aval s.B.z0 s.B.b0 s.h.n), (2, aval s.h.zt s.h.bt s.h.n), (3, aval s.h.zi s.h.bi s.h.n), (4, .int .i64 s.h.m), (5, aval s.h.za s.h.ba s.h.nt), (16, .pointer (some ⟨s.B.gb, 0, none⟩)), (17, .int .i64 s.h.n), (18, .int .i64 s.h.nt), (21, .slice (some ⟨qa, 0, none⟩) s.h.m s.h.m), (22, .slice (some ⟨qw, 0, none⟩) s.h.m s.h.m), (23, .slice (some ⟨qo, 0, none⟩) s.h.nt s.h.nt), (24, .slice (some ⟨qt, 0, none⟩) s.h.nt s.h.nt), (25, .int .i64 g.p), (26, .int .i32 x), (27, .int .i32 (s.h.T g.p)), (30, .int .i64 (llwF s.h x g.p))]) (fun w' => ∃ Ro' : Nat → Row, (∀ u, u < s.h.nt → RepI (Ro' u) (outF s.h u g.p ++ wedge s.h g.p u)) ∧ HP w w' (Fam s.h.nt 1 21 (Rt') :: Fam s.h.nt 1 21 (Ro') :: Fam s.h.m 1 21 (Rw') :: Fam s.h.m 1 21 (updR g.Ra x ra) :: Blk qt s.h.nt (hdr (Rt')) :: Blk qo s.h.nt (hdr (Ro')) :: Blk qw s.h.m (hdr (Rw')) :: Blk qa s.h.m (hdr (updR g.Ra x ra)) :: M)) ?_ (fun w29 hmid => ?_)
                                · refine CE_seq ?_
                                  refine CE_reg ?_
                                  refine EL_p (Pu_mv rfl) rfl ?_
                                  refine EL_p (Pu_geq rfl rfl) rfl ?_
                                  refine EL_p (Pu_mv rfl) rfl ?_
                                  refine EL_gP rfl rfl (fun g269 => ?_) (fun g269 => ?_)
                                  · obtain ⟨q, hq, hqe⟩ : ∃ q, q < g.p ∧ llwF s.h x g.p = (q : Nat) := by
                                      rcases hlr with h1 | h1
                                      · omega
                                      · exact h1
                                    have hqn : q < s.h.n := by omega
                                    have hTq := (ho.ok q hqn).1
                                    have hwq : wrtF s.h x g.p = (s.h.T q : Nat) := by rw [hwl, if_neg (by omega), hqe]; rfl
                                    have hout := hi.out _ hTq
                                    have houtl := hout.len
                                    have hol := outF_length s.h (s.h.T q) hon g.p hp
                                    refine EL_yes rfl rfl ?_
                                    refine EL_p (Pu_mv rfl) rfl ?_
                                    refine EL_yes rfl rfl ?_
                                    refine EL_p (Pu_mv rfl) rfl ?_
                                    refine EL_yes rfl rfl ?_
                                    refine EL_p (Pu_ixA rfl rfl sl24 hqe hqn (H30.anzM gmD.inl.mt hqn)) rfl ?_
                                    refine EL_yes rfl rfl ?_
                                    refine EL_ld rfl fl21 (H30.acellM gmD.inl.mt hqn) rfl ?_
                                    refine EL_yes rfl rfl ?_
                                    refine EL_p (Pu_mv rfl) rfl ?_
                                    refine EL_yes rfl rfl ?_
                                    refine EL_p (Pu_neq rfl rfl) rfl ?_
                                    refine EL_p (Pu_pt rfl rfl) rfl ?_
                                    refine EL_nil ?_
                                    refine CE_cN rfl (fun c276 => ?_) (fun c276 => ?_)
                                    · refine CE_drawH H30 (fun w' => (∃ L1, GM s.h s.G s.B L1 ∧ HP w w' L1) ∧ w'.cell? ⟨qo, s.h.T q, none⟩ = some (g.Ro (s.h.T q)).val) [(0, 0), (1, 0), (2, 0), (3, 0), (4, 0), (5, 0), (6, 0), (7, 0), (8, 0), (9, 0), (10, 0), (11, 0), (12, 0), (13, 1), (14, 1), (15, 0), (16, 2)] mixed rfl (by kernel_rfl) (fun w29 H31 => ?_)
                                      have hSa : (∃ L1, GM s.h s.G s.B L1 ∧ HP w w29 L1) ∧ w29.cell? ⟨qo, s.h.T q, none⟩ = some (g.Ro (s.h.T q)).val := ⟨⟨_, gmD, H31⟩, H31.cell (j := 5) rfl hTq⟩
                                      refine AO_p rfl hSa (Pu.toIf (Pu_mv rfl)) rfl ?_
                                      refine AO_p rfl hSa (Pu.toIf (Pu_mv rfl)) rfl ?_
                                      refine AO_p rfl hSa (Pu.toIf (Pu_mv rfl)) rfl ?_
                                      first | (refine AO_p rfl hSa (Pu.toIf (Pu_ixA rfl rfl sl24 hqe hqn (H31.anzM gmD.inl.mt hqn))) rfl ?_) | (refine AO_p rfl hSa (Pu.toIf (Pu_ix rfl rfl sl24 rfl hTq)) rfl ?_)
                                      first | (refine AO_p rfl hSa (Ld rfl fl21 (fun w' hh => by obtain ⟨⟨L1, g1, h1⟩, _⟩ := hh; exact h1.acellM g1.inl.mt hqn)) rfl ?_) | (refine AO_p rfl hSa (Ld rfl fl21 (fun w' hh => hh.2)) rfl ?_)
                                      refine AO_p rfl hSa (Pu.toIf (Pu_mv rfl)) rfl ?_
                                      refine AO_p rfl hSa (Pu.toIf (Pu_mv rfl)) rfl ?_
                                      refine AO_p rfl hSa (Pu.toIf (Pu_mv rfl)) rfl ?_
                                      first | (refine AO_p rfl hSa (Pu.toIf (Pu_ixA rfl rfl sl24 hqe hqn (H31.anzM gmD.inl.mt hqn))) rfl ?_) | (refine AO_p rfl hSa (Pu.toIf (Pu_ix rfl rfl sl24 rfl hTq)) rfl ?_)
                                      first | (refine AO_p rfl hSa (Ld rfl fl21 (fun w' hh => by obtain ⟨⟨L1, g1, h1⟩, _⟩ := hh; exact h1.acellM g1.inl.mt hqn)) rfl ?_) | (refine AO_p rfl hSa (Ld rfl fl21 (fun w' hh => hh.2)) rfl ?_)
                                      first | (refine AO_p rfl hSa (Pu.toIf (Pu_ixA rfl rfl sl41 hqe hqn (H31.anzM gmD.inl.mt hqn))) rfl ?_) | (refine AO_p rfl hSa (Pu.toIf (Pu_ix rfl rfl sl41 rfl hTq)) rfl ?_)
                                      first | (refine AO_p rfl hSa (Ld rfl fl24 (fun w' hh => by obtain ⟨⟨L1, g1, h1⟩, _⟩ := hh; exact h1.acellM g1.inl.mt hqn)) rfl ?_) | (refine AO_p rfl hSa (Ld rfl fl24 (fun w' hh => hh.2)) rfl ?_)
                                      refine AO_p rfl hSa (Pu.toIf (Pu_mv rfl)) rfl ?_
                                      refine AO_L rfl rfl (Lo_bs H31 rfl rfl Try.underlying24 ze21 (fun bt w30 H32 => ?_))
                                      have hSb : (∃ L1, GM s.h s.G s.B L1 ∧ HP w w30 L1) ∧ w30.cell? ⟨qo, s.h.T q, none⟩ = some (g.Ro (s.h.T q)).val := ⟨⟨_, gmD.cons _, H32⟩, H32.cell (j := 6) rfl hTq⟩
                                      refine ⟨hSb, ?_⟩
                                      refine AO_L rfl rfl (Lo_append (j := 1) (q := s.h.T q) H32 rfl hTq rfl rfl Try.underlying24 ze21 (by decide) (fun _ _ => rfl) (by omega) (by omega) (fun r' w31 hl31 hc31 H33 => ?_))
                                      have hSc : (∃ L1, GM s.h s.G s.B L1 ∧ HP w w31 L1) ∧ w31.cell? ⟨qo, s.h.T q, none⟩ = some (g.Ro (s.h.T q)).val := ⟨⟨_, ((((((((gm.cons _).cons _).cons _).cons _).cons _).cons _).cons _).cons _), H33⟩, H33.cell (j := 5) rfl hTq⟩
                                      refine ⟨hSc, ?_⟩
                                      first | (refine AO_p rfl hSc (Pu.toIf (Pu_ixA rfl rfl sl41 hqe hqn (H31.anzM gmD.inl.mt hqn))) rfl ?_) | (refine AO_p rfl hSc (Pu.toIf (Pu_ix rfl rfl sl41 rfl hTq)) rfl ?_)
                                      refine AO_S0 rfl (Lo_st (j := 5) (i := s.h.T q) H33 rfl rfl rfl fl24 rfl hTq (fun w32 H34 => ?_))
                                      refine AO_nil ?_
                                      exact ⟨⟨updR g.Ro (s.h.T q) r', wedge_next hi.out (by rw [hitm]; exact hwq) (fun hh => c276 (congrArg Int.ofNat hh)) (hout.app hl31 hc31 rfl), H34.congr (j := 5) rfl (fun k _ => hdr_upd _ _ _ _)⟩, rfl, rfl, rfl, rfl, rfl, rfl, rfl, rfl, rfl, rfl, rfl, rfl, rfl, rfl, rfl, rfl, trivial⟩
                                    · refine CE_skip ?_
                                      exact ⟨⟨g.Ro, wedge_same hi.out (by rw [hitm, hwq]; exact .inr c276), H30⟩, rfl, rfl, rfl, rfl, rfl, rfl, rfl, rfl, rfl, rfl, rfl, rfl, rfl, rfl, rfl, rfl, trivial⟩
                                  · refine EL_no rfl rfl rfl rfl ?_
                                    refine EL_no rfl rfl rfl rfl ?_
                                    refine EL_no rfl rfl rfl rfl ?_
                                    refine EL_no rfl rfl rfl rfl ?_
                                    refine EL_no rfl rfl rfl rfl ?_
                                    refine EL_no rfl rfl rfl rfl ?_
                                    refine EL_p (Pu_pf rfl rfl) rfl ?_
                                    refine EL_nil ?_
                                    refine CE_cond_f rfl ?_
                                    refine CE_skip ?_
                                    exact ⟨⟨g.Ro, wedge_same hi.out (by rw [hitm, hwl, if_pos (by omega)]; exact .inl (by decide)), H30⟩, rfl, rfl, rfl, rfl, rfl, rfl, rfl, rfl, rfl, rfl, rfl, rfl, rfl, rfl, rfl, rfl, trivial⟩
                                obtain ⟨Ro', hRo, H31⟩ := hmid
                                have gmE : GM s.h s.G s.B (Fam s.h.nt 1 21 (Rt') :: Fam s.h.nt 1 21 (Ro') :: Fam s.h.m 1 21 (Rw') :: Fam s.h.m 1 21 (updR g.Ra x ra) :: Blk qt s.h.nt (hdr (Rt')) :: Blk qo s.h.nt (hdr (Ro')) :: Blk qw s.h.m (hdr (Rw')) :: Blk qa s.h.m (hdr (updR g.Ra x ra)) :: M) := ((((((((gm.cons _).cons _).cons _).cons _).cons _).cons _).cons _).cons _)
                                refine CE_seq ?_
                                refine CE_reg ?_
                                refine EL_p (Pu_mv rfl) rfl ?_
                                refine EL_p (Pu_mv rfl) rfl ?_
                                refine EL_p (Pu_ixA rfl rfl sl22 rfl hlt (H31.anzM gmE.act hlt)) rfl ?_
                                refine EL_ld rfl fl5 (H31.acellM gmE.act hlt) rfl ?_
                                refine EL_p (Pu_eql rfl rfl) rfl ?_
                                refine EL_nil ?_
                                refine CE_cP rfl (fun c297 => ?_) (fun c297 => ?_)
                                · have hlr2 : -1 ≤ llwF s.h x g.p ∧ llwF s.h x g.p < (g.p : Int) := by rcases hlr with h1 | ⟨q, h1, h2⟩ <;> omega
                                  obtain ⟨k0, hk0⟩ : ∃ k0 : Nat, llwF s.h x g.p + 1 = (k0 : Nat) := ⟨(llwF s.h x g.p + 1).toNat, by omega⟩
                                  refine CE_seq ?_
                                  refine CE_reg ?_
                                  refine EL_p (Pu_mv rfl) rfl ?_
                                  refine EL_p (Pu_add rfl rfl (w64 (by omega))) rfl ?_
                                  refine EL_p (Pu_as rfl) rfl ?_
                                  refine EL_nil ?_
                                  refine CE_block ?_
                                  refine CE_loop (fun (k : Nat) w' => llwF s.h x g.p < (k : Int) ∧ k ≤ g.p ∧ ∃ Rq : Nat → Row, (∀ u, u < s.h.nt → RepI (Rq u) ((outF s.h u g.p ++ wedge s.h g.p u) ++ redges (s.h.T g.p) u (rdR s.h x (llwF s.h x g.p) k))) ∧ HP w w' (Fam s.h.nt 1 21 (Rt') :: Fam s.h.nt 1 21 (Rq) :: Fam s.h.m 1 21 (Rw') :: Fam s.h.m 1 21 (updR g.Ra x ra) :: Blk qt s.h.nt (hdr (Rt')) :: Blk qo s.h.nt (hdr (Rq)) :: Blk qw s.h.m (hdr (Rw')) :: Blk qa s.h.m (hdr (updR g.Ra x ra)) :: M)) (fun k => [(0, aval s.B.z0 s.B.b0 s.h.n), (2, aval s.h.zt s.h.bt s.h.n), (3, aval s.h.zi s.h.bi s.h.n), (4, .int .i64 s.h.m), (5, aval s.h.za s.h.ba s.h.nt), (16, .pointer (some ⟨s.B.gb, 0, none⟩)), (17, .int .i64 s.h.n), (18, .int .i64 s.h.nt), (21, .slice (some ⟨qa, 0, none⟩) s.h.m s.h.m), (22, .slice (some ⟨qw, 0, none⟩) s.h.m s.h.m), (23, .slice (some ⟨qo, 0, none⟩) s.h.nt s.h.nt), (24, .slice (some ⟨qt, 0, none⟩) s.h.nt s.h.nt), (25, .int .i64 g.p), (26, .int .i32 x), (27, .int .i32 (s.h.T g.p)), (31, .int .i64 k)]) (fun k => g.p - k) k0 ⟨by omega, by omega, Ro', (fun u hu => by rw [rdR_nil _ _ _ _ (by omega)]; show RepI _ (_ ++ []); rw [List.append_nil]; exact hRo u hu), H31⟩ ⟨rfl, rfl, rfl, rfl, rfl, rfl, rfl, rfl, rfl, rfl, rfl, rfl, rfl, rfl, rfl, congrArg (fun z => some (Value.int .i64 z)) hk0, trivial⟩ ?_
                                  rintro k w30 ⟨hkw, hk, Rq, hRq, H32⟩
                                  have gmF : GM s.h s.G s.B (Fam s.h.nt 1 21 (Rt') :: Fam s.h.nt 1 21 (Rq) :: Fam s.h.m 1 21 (Rw') :: Fam s.h.m 1 21 (updR g.Ra x ra) :: Blk qt s.h.nt (hdr (Rt')) :: Blk qo s.h.nt (hdr (Rq)) :: Blk qw s.h.m (hdr (Rw')) :: Blk qa s.h.m (hdr (updR g.Ra x ra)) :: M) := ((((((((gm.cons _).cons _).cons _).cons _).cons _).cons _).cons _).cons _)
                                  refine CE_seq ?_
                                  refine CE_seq ?_
                                  refine CE_reg ?_
                                  refine EL_p (Pu_mv rfl) rfl ?_
                                  refine EL_p (Pu_mv rfl) rfl ?_
                                  refine EL_p (Pu_lss rfl rfl) rfl ?_
                                  refine EL_nil ?_
                                  refine CE_cP rfl (fun c302 => ?_) (fun c302 => ?_)
                                  · have hkl : k < g.p := by omega
                                    have hkn : k < s.h.n := by omega
                                    have hTk := (ho.ok k hkn).1
                                    have hokk := (ho.ok k hkn).2
                                    refine CE_skip ?_
                                    refine CE_seq ?_
                                    refine CE_block ?_
                                    refine CE_seq ?_
                                    refine CE_reg ?_
                                    refine EL_p (Pu_mv rfl) rfl ?_
                                    refine EL_p (Pu_mv rfl) rfl ?_
                                    first | (refine EL_p (Pu_ixA rfl rfl sl24 rfl hkn (H32.anzM gmF.inl.mi hkn)) rfl ?_) | (refine EL_p (Pu_ixA rfl rfl sl24 rfl hkn (H32.anzM gmF.act hkn)) rfl ?_) | (refine EL_p (Pu_ixA rfl rfl sl24 rfl hkn (H32.anzM gmF.inl.mt hkn)) rfl ?_) | (refine EL_p (Pu_ixA rfl rfl sl24 rfl hTk (H32.anzM gmF.inl.ma hTk)) rfl ?_)
                                    first | (refine EL_ld rfl fl21 (H32.acellM gmF.inl.mi hkn) rfl ?_) | (refine EL_ld rfl fl21 (H32.acellM gmF.act hkn) rfl ?_) | (refine EL_ld rfl fl21 (H32.acellM gmF.inl.mt hkn) rfl ?_) | (refine EL_ld rfl fl21 (H32.acellM gmF.inl.ma hTk) rfl ?_)
                                    refine EL_p (Pu_mv rfl) rfl ?_
                                    refine EL_p (Pu_eql rfl rfl) rfl ?_
                                    refine EL_p (Pu_mv rfl) rfl ?_
                                    refine EL_gP rfl rfl (fun g311 => ?_) (fun g311 => ?_)
                                    · refine EL_yes rfl rfl ?_
                                      refine EL_p (Pu_mv rfl) rfl ?_
                                      refine EL_yes rfl rfl ?_
                                      refine EL_p (Pu_mv rfl) rfl ?_
                                      refine EL_yes rfl rfl ?_
                                      first | (refine EL_p (Pu_ixA rfl rfl sl22 rfl hkn (H32.anzM gmF.inl.mi hkn)) rfl ?_) | (refine EL_p (Pu_ixA rfl rfl sl22 rfl hkn (H32.anzM gmF.act hkn)) rfl ?_) | (refine EL_p (Pu_ixA rfl rfl sl22 rfl hkn (H32.anzM gmF.inl.mt hkn)) rfl ?_) | (refine EL_p (Pu_ixA rfl rfl sl22 rfl hTk (H32.anzM gmF.inl.ma hTk)) rfl ?_)
                                      refine EL_yes rfl rfl ?_
                                      first | (refine EL_ld rfl fl5 (H32.acellM gmF.inl.mi hkn) rfl ?_) | (refine EL_ld rfl fl5 (H32.acellM gmF.act hkn) rfl ?_) | (refine EL_ld rfl fl5 (H32.acellM gmF.inl.mt hkn) rfl ?_) | (refine EL_ld rfl fl5 (H32.acellM gmF.inl.ma hTk) rfl ?_)
                                      refine EL_yes rfl rfl ?_
                                      refine EL_p (Pu_eql rfl rfl) rfl ?_
                                      refine EL_p (Pu_pt rfl rfl) rfl ?_
                                      refine EL_p (Pu_mv rfl) rfl ?_
                                      refine EL_gP rfl rfl (fun g318 => ?_) (fun g318 => ?_)
                                      · refine EL_yes rfl rfl ?_
                                        refine EL_p (Pu_mv rfl) rfl ?_
                                        refine EL_yes rfl rfl ?_
                                        refine EL_p (Pu_mv rfl) rfl ?_
                                        refine EL_yes rfl rfl ?_
                                        refine EL_p (Pu_mv rfl) rfl ?_
                                        refine EL_yes rfl rfl ?_
                                        first | (refine EL_p (Pu_ixA rfl rfl sl24 rfl hkn (H32.anzM gmF.inl.mi hkn)) rfl ?_) | (refine EL_p (Pu_ixA rfl rfl sl24 rfl hkn (H32.anzM gmF.act hkn)) rfl ?_) | (refine EL_p (Pu_ixA rfl rfl sl24 rfl hkn (H32.anzM gmF.inl.mt hkn)) rfl ?_) | (refine EL_p (Pu_ixA rfl rfl sl24 rfl hTk (H32.anzM gmF.inl.ma hTk)) rfl ?_)
                                        refine EL_yes rfl rfl ?_
                                        first | (refine EL_ld rfl fl21 (H32.acellM gmF.inl.mi hkn) rfl ?_) | (refine EL_ld rfl fl21 (H32.acellM gmF.act hkn) rfl ?_) | (refine EL_ld rfl fl21 (H32.acellM gmF.inl.mt hkn) rfl ?_) | (refine EL_ld rfl fl21 (H32.acellM gmF.inl.ma hTk) rfl ?_)
                                        refine EL_yes rfl rfl ?_
                                        first | (refine EL_p (Pu_ixA rfl rfl sl25 rfl hkn (H32.anzM gmF.inl.mi hkn)) rfl ?_) | (refine EL_p (Pu_ixA rfl rfl sl25 rfl hkn (H32.anzM gmF.act hkn)) rfl ?_) | (refine EL_p (Pu_ixA rfl rfl sl25 rfl hkn (H32.anzM gmF.inl.mt hkn)) rfl ?_) | (refine EL_p (Pu_ixA rfl rfl sl25 rfl hTk (H32.anzM gmF.inl.ma hTk)) rfl ?_)
                                        refine EL_yes rfl rfl ?_
                                        first | (refine EL_ld rfl fl4 (H32.acellM gmF.inl.mi hkn) rfl ?_) | (refine EL_ld rfl fl4 (H32.acellM gmF.act hkn) rfl ?_) | (refine EL_ld rfl fl4 (H32.acellM gmF.inl.mt hkn) rfl ?_) | (refine EL_ld rfl fl4 (H32.acellM gmF.inl.ma hTk) rfl ?_)
                                        refine EL_yes rfl rfl ?_
                                        refine EL_p (Pu_not rfl) rfl ?_
                                        refine EL_p (Pu_pt rfl rfl) rfl ?_
                                        refine EL_p (Pu_mv rfl) rfl ?_
                                        refine EL_gB rfl rfl (fun g328 => ?_) (fun g328 => ?_)
                                        · have hlk : lvB s.h k = true := lvB_yes (by omega) (by simpa using g328)
                                          have hrd := rdR_yes (x := x) hkw hlk g311 (by omega)
                                          refine EL_yes rfl rfl ?_
                                          refine EL_p (Pu_mv rfl) rfl ?_
                                          refine EL_yes rfl rfl ?_
                                          refine EL_p (Pu_mv rfl) rfl ?_
                                          refine EL_yes rfl rfl ?_
                                          first | (refine EL_p (Pu_ixA rfl rfl sl24 rfl hkn (H32.anzM gmF.inl.mi hkn)) rfl ?_) | (refine EL_p (Pu_ixA rfl rfl sl24 rfl hkn (H32.anzM gmF.act hkn)) rfl ?_) | (refine EL_p (Pu_ixA rfl rfl sl24 rfl hkn (H32.anzM gmF.inl.mt hkn)) rfl ?_) | (refine EL_p (Pu_ixA rfl rfl sl24 rfl hTk (H32.anzM gmF.inl.ma hTk)) rfl ?_)
                                          refine EL_yes rfl rfl ?_
                                          first | (refine EL_ld rfl fl21 (H32.acellM gmF.inl.mi hkn) rfl ?_) | (refine EL_ld rfl fl21 (H32.acellM gmF.act hkn) rfl ?_) | (refine EL_ld rfl fl21 (H32.acellM gmF.inl.mt hkn) rfl ?_) | (refine EL_ld rfl fl21 (H32.acellM gmF.inl.ma hTk) rfl ?_)
                                          refine EL_yes rfl rfl ?_
                                          refine EL_p (Pu_mv rfl) rfl ?_
                                          refine EL_yes rfl rfl ?_
                                          refine EL_p (Pu_neq rfl rfl) rfl ?_
                                          refine EL_p (Pu_pt rfl rfl) rfl ?_
                                          refine EL_nil ?_
                                          refine CE_cN rfl (fun c335 => ?_) (fun c335 => ?_)
                                          · have hlq := (hRq _ hTk).len
                                            rw [List.length_append, List.length_append] at hlq
                                            have hq1 := outF_length s.h (s.h.T k) hon g.p hp
                                            have hq2 := wedge_length s.h g.p (s.h.T k)
                                            have hq3 := redges_length (s.h.T g.p) (s.h.T k) (rdR s.h x (llwF s.h x g.p) k)
                                            have hq4 := rdR_length s.h x (llwF s.h x g.p) k
                                            refine CE_drawH H32 (fun w' => (∃ L1, GM s.h s.G s.B L1 ∧ HP w w' L1) ∧ w'.cell? ⟨qo, s.h.T k, none⟩ = some (Rq (s.h.T k)).val) [(0, 0), (1, 0), (2, 0), (3, 0), (4, 0), (5, 0), (6, 0), (7, 0), (8, 0), (9, 0), (10, 0), (11, 0), (12, 0), (13, 1), (14, 1), (15, 0), (16, 2)] mixed rfl (by kernel_rfl) (fun w31 H33 => ?_)
                                            have hSa : (∃ L1, GM s.h s.G s.B L1 ∧ HP w w31 L1) ∧ w31.cell? ⟨qo, s.h.T k, none⟩ = some (Rq (s.h.T k)).val := ⟨⟨_, gmF, H33⟩, H33.cell (j := 5) rfl hTk⟩
                                            refine AO_p rfl hSa (Pu.toIf (Pu_mv rfl)) rfl ?_
                                            refine AO_p rfl hSa (Pu.toIf (Pu_mv rfl)) rfl ?_
                                            refine AO_p rfl hSa (Pu.toIf (Pu_mv rfl)) rfl ?_
                                            first | (refine AO_p rfl hSa (Pu.toIf (Pu_ixA rfl rfl sl24 rfl hkn (H33.anzM gmF.inl.mt hkn))) rfl ?_) | (refine AO_p rfl hSa (Pu.toIf (Pu_ix rfl rfl sl24 rfl hTk)) rfl ?_)
                                            first | (refine AO_p rfl hSa (Ld rfl fl21 (fun w' hh => by obtain ⟨⟨L1, g1, h1⟩, _⟩ := hh; exact h1.acellM g1.inl.mt hkn)) rfl ?_) | (refine AO_p rfl hSa (Ld rfl fl21 (fun w' hh => hh.2)) rfl ?_)
                                            refine AO_p rfl hSa (Pu.toIf (Pu_mv rfl)) rfl ?_
                                            refine AO_p rfl hSa (Pu.toIf (Pu_mv rfl)) rfl ?_
                                            refine AO_p rfl hSa (Pu.toIf (Pu_mv rfl)) rfl ?_
                                            first | (refine AO_p rfl hSa (Pu.toIf (Pu_ixA rfl rfl sl24 rfl hkn (H33.anzM gmF.inl.mt hkn))) rfl ?_) | (refine AO_p rfl hSa (Pu.toIf (Pu_ix rfl rfl sl24 rfl hTk)) rfl ?_)
                                            first | (refine AO_p rfl hSa (Ld rfl fl21 (fun w' hh => by obtain ⟨⟨L1, g1, h1⟩, _⟩ := hh; exact h1.acellM g1.inl.mt hkn)) rfl ?_) | (refine AO_p rfl hSa (Ld rfl fl21 (fun w' hh => hh.2)) rfl ?_)
                                            first | (refine AO_p rfl hSa (Pu.toIf (Pu_ixA rfl rfl sl41 rfl hkn (H33.anzM gmF.inl.mt hkn))) rfl ?_) | (refine AO_p rfl hSa (Pu.toIf (Pu_ix rfl rfl sl41 rfl hTk)) rfl ?_)
                                            first | (refine AO_p rfl hSa (Ld rfl fl24 (fun w' hh => by obtain ⟨⟨L1, g1, h1⟩, _⟩ := hh; exact h1.acellM g1.inl.mt hkn)) rfl ?_) | (refine AO_p rfl hSa (Ld rfl fl24 (fun w' hh => hh.2)) rfl ?_)
                                            refine AO_p rfl hSa (Pu.toIf (Pu_mv rfl)) rfl ?_
                                            refine AO_L rfl rfl (Lo_bs H33 rfl rfl Try.underlying24 ze21 (fun bt w32 H34 => ?_))
                                            have hSb : (∃ L1, GM s.h s.G s.B L1 ∧ HP w w32 L1) ∧ w32.cell? ⟨qo, s.h.T k, none⟩ = some (Rq (s.h.T k)).val := ⟨⟨_, gmF.cons _, H34⟩, H34.cell (j := 6) rfl hTk⟩
                                            refine ⟨hSb, ?_⟩
                                            refine AO_L rfl rfl (Lo_append (j := 1) (q := s.h.T k) H34 rfl hTk rfl rfl Try.underlying24 ze21 (by decide) (fun _ _ => rfl) (by omega) (by omega) (fun r' w33 hl33 hc33 H35 => ?_))
                                            have hSc : (∃ L1, GM s.h s.G s.B L1 ∧ HP w w33 L1) ∧ w33.cell? ⟨qo, s.h.T k, none⟩ = some (Rq (s.h.T k)).val := ⟨⟨_, ((((((((gm.cons _).cons _).cons _).cons _).cons _).cons _).cons _).cons _), H35⟩, H35.cell (j := 5) rfl hTk⟩
                                            refine ⟨hSc, ?_⟩
                                            first | (refine AO_p rfl hSc (Pu.toIf (Pu_ixA rfl rfl sl41 rfl hkn (H33.anzM gmF.inl.mt hkn))) rfl ?_) | (refine AO_p rfl hSc (Pu.toIf (Pu_ix rfl rfl sl41 rfl hTk)) rfl ?_)
                                            refine AO_S0 rfl (Lo_st (j := 5) (i := s.h.T k) H35 rfl rfl rfl fl24 rfl hTk (fun w34 H36 => ?_))
                                            refine AO_nil ?_
                                            refine CE_reg ?_
                                            refine EL_p (Pu_mv rfl) rfl ?_
                                            refine EL_p (Pu_add rfl rfl (w64 (by omega))) rfl ?_
                                            refine EL_p (Pu_as rfl) rfl ?_
                                            refine EL_nil ?_
                                            refine ⟨k + 1, by omega, ⟨rfl, rfl, rfl, rfl, rfl, rfl, rfl, rfl, rfl, rfl, rfl, rfl, rfl, rfl, rfl, rfl, trivial⟩, by omega, hkl, updR Rq (s.h.T k) r', ?_, H36.congr (j := 5) rfl (fun k _ => hdr_upd _ _ _ _)⟩
                                            rw [hrd]
                                            exact red2_yes hRq (fun hh => c335 (congrArg Int.ofNat hh)) ((hRq _ hTk).app hl33 hc33 rfl)
                                          · refine CE_skip ?_
                                            refine CE_reg ?_
                                            refine EL_p (Pu_mv rfl) rfl ?_
                                            refine EL_p (Pu_add rfl rfl (w64 (by omega))) rfl ?_
                                            refine EL_p (Pu_as rfl) rfl ?_
                                            refine EL_nil ?_
                                            refine ⟨k + 1, by omega, ⟨rfl, rfl, rfl, rfl, rfl, rfl, rfl, rfl, rfl, rfl, rfl, rfl, rfl, rfl, rfl, rfl, trivial⟩, by omega, hkl, Rq, ?_, H32⟩
                                            rw [hrd]
                                            exact red2_no hRq (Int.ofNat.inj c335)
                                        · refine EL_no rfl rfl rfl rfl ?_
                                          refine EL_no rfl rfl rfl rfl ?_
                                          refine EL_no rfl rfl rfl rfl ?_
                                          refine EL_no rfl rfl rfl rfl ?_
                                          refine EL_no rfl rfl rfl rfl ?_
                                          refine EL_no rfl rfl rfl rfl ?_
                                          refine EL_p (Pu_pf rfl rfl) rfl ?_
                                          refine EL_nil ?_
                                          refine CE_cond_f rfl ?_
                                          refine CE_skip ?_
                                          refine CE_reg ?_
                                          refine EL_p (Pu_mv rfl) rfl ?_
                                          refine EL_p (Pu_add rfl rfl (w64 (by omega))) rfl ?_
                                          refine EL_p (Pu_as rfl) rfl ?_
                                          refine EL_nil ?_
                                          refine ⟨k + 1, by omega, ⟨rfl, rfl, rfl, rfl, rfl, rfl, rfl, rfl, rfl, rfl, rfl, rfl, rfl, rfl, rfl, rfl, trivial⟩, by omega, hkl, Rq, ?_, H32⟩
                                          rw [rdR_no (fun hh => by have h1 := lvB_B hh.1; rw [h1] at g328; cases g328)]; exact hRq
                                      · refine EL_no rfl rfl rfl rfl ?_
                                        refine EL_no rfl rfl rfl rfl ?_
                                        refine EL_no rfl rfl rfl rfl ?_
                                        refine EL_no rfl rfl rfl rfl ?_
                                        refine EL_no rfl rfl rfl rfl ?_
                                        refine EL_no rfl rfl rfl rfl ?_
                                        refine EL_no rfl rfl rfl rfl ?_
                                        refine EL_no rfl rfl rfl rfl ?_
                                        refine EL_p (Pu_pf rfl rfl) rfl ?_
                                        refine EL_p (Pu_mv rfl) rfl ?_
                                        refine EL_no rfl rfl rfl rfl ?_
                                        refine EL_no rfl rfl rfl rfl ?_
                                        refine EL_no rfl rfl rfl rfl ?_
                                        refine EL_no rfl rfl rfl rfl ?_
                                        refine EL_no rfl rfl rfl rfl ?_
                                        refine EL_no rfl rfl rfl rfl ?_
                                        refine EL_p (Pu_pf rfl rfl) rfl ?_
                                        refine EL_nil ?_
                                        refine CE_cond_f rfl ?_
                                        refine CE_skip ?_
                                        refine CE_reg ?_
                                        refine EL_p (Pu_mv rfl) rfl ?_
                                        refine EL_p (Pu_add rfl rfl (w64 (by omega))) rfl ?_
                                        refine EL_p (Pu_as rfl) rfl ?_
                                        refine EL_nil ?_
                                        refine ⟨k + 1, by omega, ⟨rfl, rfl, rfl, rfl, rfl, rfl, rfl, rfl, rfl, rfl, rfl, rfl, rfl, rfl, rfl, rfl, trivial⟩, by omega, hkl, Rq, ?_, H32⟩
                                        rw [rdR_no (fun hh => by have := hh.2.2; omega)]; exact hRq
                                    · refine EL_no rfl rfl rfl rfl ?_
                                      refine EL_no rfl rfl rfl rfl ?_
                                      refine EL_no rfl rfl rfl rfl ?_
                                      refine EL_no rfl rfl rfl rfl ?_
                                      refine EL_no rfl rfl rfl rfl ?_
                                      refine EL_p (Pu_pf rfl rfl) rfl ?_
                                      refine EL_p (Pu_mv rfl) rfl ?_
                                      refine EL_no rfl rfl rfl rfl ?_
                                      refine EL_no rfl rfl rfl rfl ?_
                                      refine EL_no rfl rfl rfl rfl ?_
                                      refine EL_no rfl rfl rfl rfl ?_
                                      refine EL_no rfl rfl rfl rfl ?_
                                      refine EL_no rfl rfl rfl rfl ?_
                                      refine EL_no rfl rfl rfl rfl ?_
                                      refine EL_no rfl rfl rfl rfl ?_
                                      refine EL_p (Pu_pf rfl rfl) rfl ?_
                                      refine EL_p (Pu_mv rfl) rfl ?_
                                      refine EL_no rfl rfl rfl rfl ?_
                                      refine EL_no rfl rfl rfl rfl ?_
                                      refine EL_no rfl rfl rfl rfl ?_
                                      refine EL_no rfl rfl rfl rfl ?_
                                      refine EL_no rfl rfl rfl rfl ?_
                                      refine EL_no rfl rfl rfl rfl ?_
                                      refine EL_p (Pu_pf rfl rfl) rfl ?_
                                      refine EL_nil ?_
                                      refine CE_cond_f rfl ?_
                                      refine CE_skip ?_
                                      refine CE_reg ?_
                                      refine EL_p (Pu_mv rfl) rfl ?_
                                      refine EL_p (Pu_add rfl rfl (w64 (by omega))) rfl ?_
                                      refine EL_p (Pu_as rfl) rfl ?_
                                      refine EL_nil ?_
                                      refine ⟨k + 1, by omega, ⟨rfl, rfl, rfl, rfl, rfl, rfl, rfl, rfl, rfl, rfl, rfl, rfl, rfl, rfl, rfl, rfl, trivial⟩, by omega, hkl, Rq, ?_, H32⟩
                                      rw [rdR_no (fun hh => g311 hh.2.1)]; exact hRq
                                  · refine CE_exit ?_
                                    refine CE_reg ?_
                                    refine EL_p (Pu_mv rfl) rfl ?_
                                    refine EL_p (Pu_add rfl rfl (w64 (by omega))) rfl ?_
                                    refine EL_p (Pu_as rfl) rfl ?_
                                    refine EL_nil ?_
                                    have hkp : k = g.p := by omega
                                    refine ⟨⟨g.p + 1, updR g.Ra x ra, Rw', Rq, Rt'⟩, by dsimp only; omega, ⟨rfl, rfl, rfl, rfl, rfl, rfl, rfl, rfl, rfl, rfl, rfl, rfl, rfl, trivial⟩, hlt, ⟨hacc2, hRw, fun u hu => ?_, hRt⟩, H32⟩
                                    show RepI (Rq u) (outF s.h u (g.p + 1))
                                    have h1 := hRq u hu
                                    rw [hkp, ← rdsF_rdR] at h1
                                    rw [outF, if_pos hl, if_pos c297, hitm]; exact h1
                                · refine CE_skip ?_
                                  refine CE_reg ?_
                                  refine EL_p (Pu_mv rfl) rfl ?_
                                  refine EL_p (Pu_add rfl rfl (w64 (by omega))) rfl ?_
                                  refine EL_p (Pu_as rfl) rfl ?_
                                  refine EL_nil ?_
                                  refine ⟨⟨g.p + 1, updR g.Ra x ra, Rw', Ro', Rt'⟩, by dsimp only; omega, ⟨rfl, rfl, rfl, rfl, rfl, rfl, rfl, rfl, rfl, rfl, rfl, rfl, rfl, trivial⟩, hlt, ⟨hacc2, hRw, fun u hu => ?_, hRt⟩, H31⟩
                                  show RepI (Ro' u) (outF s.h u (g.p + 1))
                                  rw [outF, if_pos hl, if_neg c297, List.append_nil]; exact hRo u hu
                              · have hpn : g.p = s.h.n := by omega
                                have hacc : ∀ x, x < s.h.m → RepI (g.Ra x) (accF s.h x s.h.n) := fun x hx => by rw [← hpn]; exact hi.acc x hx
                                have hwrs : ∀ x, x < s.h.m → RepI (g.Rw x) (wrsF s.h x s.h.n) := fun x hx => by rw [← hpn]; exact hi.wrs x hx
                                have hout : ∀ t, t < s.h.nt → RepI (g.Ro t) (outF s.h t s.h.n) := fun x hx => by rw [← hpn]; exact hi.out x hx
                                have hxs : ∀ t, t < s.h.nt → RepI (g.Rt t) (xsF s.h t s.h.n) := fun x hx => by rw [← hpn]; exact hi.xs x hx
                                refine CE_exit ?_
                                refine CE_seq ?_
                                refine CE_reg ?_
                                refine EL_p (Pu_mv rfl) rfl ?_
                                refine EL_L rfl (Lo_call ca26 rfl ((acc26 H21 gmA).mono (fun y w22 hh => ⟨_, hh.1, ?_⟩)))
                                have H22 := hh.2
                                refine EL_p (Pu_as rfl) rfl ?_
                                refine EL_nil ?_
                                refine CE_seq ?_
                                refine CE_reg ?_
                                refine EL_p (Pu_mv rfl) rfl ?_
                                refine EL_L rfl (Lo_call ca27 rfl ((wrs27 H22 gmA).mono (fun y w23 hh => ⟨_, hh.1, ?_⟩)))
                                have H23 := hh.2
                                refine EL_p (Pu_as rfl) rfl ?_
                                refine EL_nil ?_
                                refine CE_seq ?_
                                refine CE_seq ?_
                                refine CE_reg ?_
                                refine EL_p (Pu_mv rfl) rfl ?_
                                refine EL_p (Pu_len rfl sl41 rfl) rfl ?_
                                refine EL_p (Pu_mv rfl) rfl ?_
                                refine EL_p (Pu_neq rfl rfl) rfl ?_
                                refine EL_p (Pu_mv rfl) rfl ?_
                                refine EL_gN rfl rfl (fun g360 => ?_) (fun g360 => ?_)
                                · exact absurd rfl g360 --stop
                                · refine EL_yes rfl rfl ?_
                                  refine EL_p (Pu_mv rfl) rfl ?_
                                  refine EL_yes rfl rfl ?_
                                  refine EL_p (Pu_len rfl sl41 rfl) rfl ?_
                                  refine EL_yes rfl rfl ?_
                                  refine EL_p (Pu_mv rfl) rfl ?_
                                  refine EL_yes rfl rfl ?_
                                  refine EL_p (Pu_neq rfl rfl) rfl ?_
                                  refine EL_p (Pu_pf rfl rfl) rfl ?_
                                  refine EL_nil ?_
                                  refine CE_cN rfl (fun c365 => ?_) (fun c365 => ?_)
                                  · exact absurd rfl c365 --stop
                                  · refine CE_skip ?_
                                    refine CE_seq ?_
                                    refine CE_seq ?_
                                    refine CE_reg ?_
                                    refine EL_p (Pu_as rfl) rfl ?_
                                    refine EL_nil ?_
                                    refine CE_block ?_
                                    refine CE_loop (fun (k : Nat) w' => k ≤ s.h.m ∧ HP w w' (Fam s.h.nt 1 21 (g.Rt) :: Fam s.h.nt 1 21 (g.Ro) :: Fam s.h.m 1 21 (g.Rw) :: Fam s.h.m 1 21 (g.Ra) :: Blk qt s.h.nt (hdr (g.Rt)) :: Blk qo s.h.nt (hdr (g.Ro)) :: Blk qw s.h.m (hdr (g.Rw)) :: Blk qa s.h.m (hdr (g.Ra)) :: M)) (fun k => [(0, aval s.B.z0 s.B.b0 s.h.n), (2, aval s.h.zt s.h.bt s.h.n), (3, aval s.h.zi s.h.bi s.h.n), (4, .int .i64 s.h.m), (5, aval s.h.za s.h.ba s.h.nt), (16, .pointer (some ⟨s.B.gb, 0, none⟩)), (17, .int .i64 s.h.n), (18, .int .i64 s.h.nt), (21, .slice (some ⟨qa, 0, none⟩) s.h.m s.h.m), (22, .slice (some ⟨qw, 0, none⟩) s.h.m s.h.m), (23, .slice (some ⟨qo, 0, none⟩) s.h.nt s.h.nt), (24, .slice (some ⟨qt, 0, none⟩) s.h.nt s.h.nt), (32, .slice (some ⟨s.B.ab, 0, none⟩) s.h.m s.h.m), (33, .slice (some ⟨s.B.wb, 0, none⟩) s.h.m s.h.m), (34, .int .i64 k)]) (fun k => s.h.m - k) 0 ⟨Nat.zero_le _, H23⟩ ⟨rfl, rfl, rfl, rfl, rfl, rfl, rfl, rfl, rfl, rfl, rfl, rfl, rfl, rfl, rfl, trivial⟩ ?_
                                    rintro k w24 ⟨hk, H24⟩
                                    refine CE_seq ?_
                                    refine CE_seq ?_
                                    refine CE_reg ?_
                                    refine EL_p (Pu_mv rfl) rfl ?_
                                    refine EL_p (Pu_mv rfl) rfl ?_
                                    refine EL_p (Pu_lss rfl rfl) rfl ?_
                                    refine EL_nil ?_
                                    refine CE_cP rfl (fun c368 => ?_) (fun c368 => ?_)
                                    · have hkl : k < s.h.m := by omega
                                      refine CE_skip ?_
                                      refine CE_seq ?_
                                      refine CE_block ?_
                                      refine CE_seq ?_
                                      refine CE_drawH H24 (fun w' => HP w w' (Fam s.h.nt 1 21 (g.Rt) :: Fam s.h.nt 1 21 (g.Ro) :: Fam s.h.m 1 21 (g.Rw) :: Fam s.h.m 1 21 (g.Ra) :: Blk qt s.h.nt (hdr (g.Rt)) :: Blk qo s.h.nt (hdr (g.Ro)) :: Blk qw s.h.m (hdr (g.Rw)) :: Blk qa s.h.m (hdr (g.Ra)) :: M)) [(0, 0), (1, 0), (2, 0), (3, 0), (4, 0), (5, 0), (6, 0), (7, 0), (8, 1), (9, 0), (10, 0), (11, 0), (12, 0), (13, 0), (14, 0), (15, 0), (16, 0), (17, 0), (18, 0), (19, 1), (20, 0), (21, 0)] mixed rfl (by kernel_rfl) (fun w25 H25 => ?_)
                                      refine AO_p rfl H25 (Pu.toIf (Pu_mv rfl)) rfl ?_
                                      refine AO_p rfl H25 (Pu.toIf (Pu_mv rfl)) rfl ?_
                                      refine AO_p rfl H25 (Pu.toIf (Pu_ix rfl rfl sl41 rfl hkl)) rfl ?_
                                      first | (refine AO_p rfl H25 (Ld rfl fl24 (fun w' hh => hh.cellM gmA.a hkl)) rfl ?_) | (refine AO_p rfl H25 (Ld rfl fl24 (fun w' hh => hh.cell (j := 7) rfl hkl)) rfl ?_) | (refine AO_p rfl H25 (Ld rfl fl24 (fun w' hh => hh.cellM gmA.w hkl)) rfl ?_) | (refine AO_p rfl H25 (Ld rfl fl24 (fun w' hh => hh.cell (j := 6) rfl hkl)) rfl ?_)
                                      refine AO_p rfl H25 (Pu.toIf (Pu_mv rfl)) rfl ?_
                                      refine AO_p rfl H25 (Pu.toIf (Pu_mv rfl)) rfl ?_
                                      refine AO_p rfl H25 (Pu.toIf (Pu_ix rfl rfl sl41 rfl hkl)) rfl ?_
                                      first | (refine AO_p rfl H25 (Ld rfl fl24 (fun w' hh => hh.cellM gmA.a hkl)) rfl ?_) | (refine AO_p rfl H25 (Ld rfl fl24 (fun w' hh => hh.cell (j := 7) rfl hkl)) rfl ?_) | (refine AO_p rfl H25 (Ld rfl fl24 (fun w' hh => hh.cellM gmA.w hkl)) rfl ?_) | (refine AO_p rfl H25 (Ld rfl fl24 (fun w' hh => hh.cell (j := 6) rfl hkl)) rfl ?_)
                                      refine AO_L rfl rfl (Lo_call ca34 rfl ((same34 H25 gmA.fa (List.mem_of_getElem? (i := 3) rfl) hkl hkl (gi.acc k hkl) (hacc k hkl) (by have := accF_length s.h k s.h.n; omega)).mono (fun y w26 hh => ⟨_, hh.1, hh.2, ?_⟩)))
                                      have H26 := hh.2
                                      refine AO_p rfl H26 (Pu.toIf (Pu_not rfl)) rfl ?_
                                      refine AO_p rfl H26 (Pu.toIf (Pu_mv rfl)) rfl ?_
                                      refine AO_gB rfl rfl rfl (fun g381 => ?_) (fun g381 => ?_)
                                      · cases g381 --stop
                                      · refine AO_yes rfl rfl rfl H26 (Pu.toIf (Pu_mv rfl)) rfl ?_
                                        refine AO_yes rfl rfl rfl H26 (Pu.toIf (Pu_mv rfl)) rfl ?_
                                        refine AO_yes rfl rfl rfl H26 (Pu.toIf (Pu_ix rfl rfl sl41 rfl hkl)) rfl ?_
                                        first | (refine AO_yes rfl rfl rfl H26 (Ld rfl fl24 (fun w' hh => hh.cellM gmA.a hkl)) rfl ?_) | (refine AO_yes rfl rfl rfl H26 (Ld rfl fl24 (fun w' hh => hh.cell (j := 7) rfl hkl)) rfl ?_) | (refine AO_yes rfl rfl rfl H26 (Ld rfl fl24 (fun w' hh => hh.cellM gmA.w hkl)) rfl ?_) | (refine AO_yes rfl rfl rfl H26 (Ld rfl fl24 (fun w' hh => hh.cell (j := 6) rfl hkl)) rfl ?_)
                                        refine AO_yes rfl rfl rfl H26 (Pu.toIf (Pu_mv rfl)) rfl ?_
                                        refine AO_yes rfl rfl rfl H26 (Pu.toIf (Pu_mv rfl)) rfl ?_
                                        refine AO_yes rfl rfl rfl H26 (Pu.toIf (Pu_ix rfl rfl sl41 rfl hkl)) rfl ?_
                                        first | (refine AO_yes rfl rfl rfl H26 (Ld rfl fl24 (fun w' hh => hh.cellM gmA.a hkl)) rfl ?_) | (refine AO_yes rfl rfl rfl H26 (Ld rfl fl24 (fun w' hh => hh.cell (j := 7) rfl hkl)) rfl ?_) | (refine AO_yes rfl rfl rfl H26 (Ld rfl fl24 (fun w' hh => hh.cellM gmA.w hkl)) rfl ?_) | (refine AO_yes rfl rfl rfl H26 (Ld rfl fl24 (fun w' hh => hh.cell (j := 6) rfl hkl)) rfl ?_)
                                        refine AO_Ly rfl rfl rfl rfl (Lo_call ca34 rfl ((same34 H26 gmA.fw (List.mem_of_getElem? (i := 2) rfl) hkl hkl (gi.wrs k hkl) (hwrs k hkl) (by have := wrsF_length s.h k s.h.n; omega)).mono (fun y w27 hh => ⟨_, hh.1, hh.2, ?_⟩)))
                                        have H27 := hh.2
                                        refine AO_yes rfl rfl rfl H27 (Pu.toIf (Pu_not rfl)) rfl ?_
                                        refine AO_p rfl H27 (Pu.toIf (Pu_pf rfl rfl)) rfl ?_
                                        refine AO_nil ?_
                                        refine CE_cB rfl (fun c392 => ?_) (fun c392 => ?_)
                                        · cases c392 --stop
                                        · refine CE_skip ?_
                                          refine CE_reg ?_
                                          refine EL_p (Pu_mv rfl) rfl ?_
                                          refine EL_p (Pu_add rfl rfl (w64 (by omega))) rfl ?_
                                          refine EL_p (Pu_as rfl) rfl ?_
                                          refine EL_nil ?_
                                          exact ⟨k + 1, by omega, ⟨rfl, rfl, rfl, rfl, rfl, rfl, rfl, rfl, rfl, rfl, rfl, rfl, rfl, rfl, rfl, trivial⟩, hkl, H27⟩
                                    · refine CE_exit ?_
                                      refine CE_seq ?_
                                      refine CE_reg ?_
                                      refine EL_p (Pu_mv rfl) rfl ?_
                                      refine EL_L rfl (Lo_call ca24 rfl ((out24 H24 gmA).mono (fun y w25 hh => ⟨_, hh.1, ?_⟩)))
                                      have H25 := hh.2
                                      refine EL_p (Pu_as rfl) rfl ?_
                                      refine EL_nil ?_
                                      refine CE_seq ?_
                                      refine CE_seq ?_
                                      refine CE_reg ?_
                                      refine EL_p (Pu_mv rfl) rfl ?_
                                      refine EL_p (Pu_len rfl sl41 rfl) rfl ?_
                                      refine EL_p (Pu_mv rfl) rfl ?_
                                      refine EL_p (Pu_neq rfl rfl) rfl ?_
                                      refine EL_nil ?_
                                      refine CE_cN rfl (fun c398 => ?_) (fun c398 => ?_)
                                      · exact absurd rfl c398 --stop
                                      · refine CE_skip ?_
                                        refine CE_seq ?_
                                        refine CE_seq ?_
                                        refine CE_reg ?_
                                        refine EL_p (Pu_as rfl) rfl ?_
                                        refine EL_nil ?_
                                        refine CE_block ?_
                                        refine CE_loop (fun (k : Nat) w' => k ≤ s.h.nt ∧ HP w w' (Fam s.h.nt 1 21 (g.Rt) :: Fam s.h.nt 1 21 (g.Ro) :: Fam s.h.m 1 21 (g.Rw) :: Fam s.h.m 1 21 (g.Ra) :: Blk qt s.h.nt (hdr (g.Rt)) :: Blk qo s.h.nt (hdr (g.Ro)) :: Blk qw s.h.m (hdr (g.Rw)) :: Blk qa s.h.m (hdr (g.Ra)) :: M)) (fun k => [(0, aval s.B.z0 s.B.b0 s.h.n), (2, aval s.h.zt s.h.bt s.h.n), (3, aval s.h.zi s.h.bi s.h.n), (4, .int .i64 s.h.m), (5, aval s.h.za s.h.ba s.h.nt), (16, .pointer (some ⟨s.B.gb, 0, none⟩)), (17, .int .i64 s.h.n), (18, .int .i64 s.h.nt), (21, .slice (some ⟨qa, 0, none⟩) s.h.m s.h.m), (22, .slice (some ⟨qw, 0, none⟩) s.h.m s.h.m), (23, .slice (some ⟨qo, 0, none⟩) s.h.nt s.h.nt), (24, .slice (some ⟨qt, 0, none⟩) s.h.nt s.h.nt), (35, .slice (some ⟨s.B.ub, 0, none⟩) s.h.nt s.h.nt), (36, .int .i64 k)]) (fun k => s.h.nt - k) 0 ⟨Nat.zero_le _, H25⟩ ⟨rfl, rfl, rfl, rfl, rfl, rfl, rfl, rfl, rfl, rfl, rfl, rfl, rfl, rfl, trivial⟩ ?_
                                        rintro k w26 ⟨hk, H26⟩
                                        refine CE_seq ?_
                                        refine CE_seq ?_
                                        refine CE_reg ?_
                                        refine EL_p (Pu_mv rfl) rfl ?_
                                        refine EL_p (Pu_mv rfl) rfl ?_
                                        refine EL_p (Pu_lss rfl rfl) rfl ?_
                                        refine EL_nil ?_
                                        refine CE_cP rfl (fun c401 => ?_) (fun c401 => ?_)
                                        · have hkl : k < s.h.nt := by omega
                                          refine CE_skip ?_
                                          refine CE_seq ?_
                                          refine CE_block ?_
                                          refine CE_seq ?_
                                          refine CE_drawH H26 (fun w' => HP w w' (Fam s.h.nt 1 21 (g.Rt) :: Fam s.h.nt 1 21 (g.Ro) :: Fam s.h.m 1 21 (g.Rw) :: Fam s.h.m 1 21 (g.Ra) :: Blk qt s.h.nt (hdr (g.Rt)) :: Blk qo s.h.nt (hdr (g.Ro)) :: Blk qw s.h.m (hdr (g.Rw)) :: Blk qa s.h.m (hdr (g.Ra)) :: M)) [(0, 0), (1, 0), (2, 0), (3, 0), (4, 0), (5, 0), (6, 0), (7, 0), (8, 1), (9, 0)] mixed rfl (by kernel_rfl) (fun w27 H27 => ?_)
                                          refine AO_p rfl H27 (Pu.toIf (Pu_mv rfl)) rfl ?_
                                          refine AO_p rfl H27 (Pu.toIf (Pu_mv rfl)) rfl ?_
                                          refine AO_p rfl H27 (Pu.toIf (Pu_ix rfl rfl sl41 rfl hkl)) rfl ?_
                                          first | (refine AO_p rfl H27 (Ld rfl fl24 (fun w' hh => hh.cellM gmA.o hkl)) rfl ?_) | (refine AO_p rfl H27 (Ld rfl fl24 (fun w' hh => hh.cell (j := 5) rfl hkl)) rfl ?_)
                                          refine AO_p rfl H27 (Pu.toIf (Pu_mv rfl)) rfl ?_
                                          refine AO_p rfl H27 (Pu.toIf (Pu_mv rfl)) rfl ?_
                                          refine AO_p rfl H27 (Pu.toIf (Pu_ix rfl rfl sl41 rfl hkl)) rfl ?_
                                          first | (refine AO_p rfl H27 (Ld rfl fl24 (fun w' hh => hh.cellM gmA.o hkl)) rfl ?_) | (refine AO_p rfl H27 (Ld rfl fl24 (fun w' hh => hh.cell (j := 5) rfl hkl)) rfl ?_)
                                          refine AO_L rfl rfl (Lo_call ca34 rfl ((same34 H27 gmA.fo (List.mem_of_getElem? (i := 1) rfl) hkl hkl (gi.out k hkl) (hout k hkl) (by have := outF_length s.h k hon s.h.n (Nat.le_refl _); omega)).mono (fun y w28 hh => ⟨_, hh.1, hh.2, ?_⟩)))
                                          have H28 := hh.2
                                          refine AO_p rfl H28 (Pu.toIf (Pu_not rfl)) rfl ?_
                                          refine AO_nil ?_
                                          refine CE_cB rfl (fun c413 => ?_) (fun c413 => ?_)
                                          · cases c413 --stop
                                          · refine CE_skip ?_
                                            refine CE_reg ?_
                                            refine EL_p (Pu_mv rfl) rfl ?_
                                            refine EL_p (Pu_add rfl rfl (w64 (by omega))) rfl ?_
                                            refine EL_p (Pu_as rfl) rfl ?_
                                            refine EL_nil ?_
                                            exact ⟨k + 1, by omega, ⟨rfl, rfl, rfl, rfl, rfl, rfl, rfl, rfl, rfl, rfl, rfl, rfl, rfl, rfl, trivial⟩, hkl, H28⟩
                                        · refine CE_exit ?_
                                          refine CE_seq ?_
                                          refine CE_seq ?_
                                          refine CE_reg ?_
                                          refine EL_p (Pu_mv rfl) rfl ?_
                                          refine EL_L rfl (Lo_call ca28 rfl ((tlen28 H26 gmA).mono (fun y w27 hh => ⟨_, hh.1, ?_⟩)))
                                          have H27 := hh.2
                                          refine EL_p (Pu_mv rfl) rfl ?_
                                          refine EL_p (Pu_neq rfl rfl) rfl ?_
                                          refine EL_nil ?_
                                          refine CE_cN rfl (fun c417 => ?_) (fun c417 => ?_)
                                          · exact absurd rfl c417 --stop
                                          · refine CE_skip ?_
                                            refine CE_seq ?_
                                            refine CE_seq ?_
                                            refine CE_reg ?_
                                            refine EL_p (Pu_as rfl) rfl ?_
                                            refine EL_nil ?_
                                            refine CE_block ?_
                                            refine CE_loop (fun (k : Nat) w' => k ≤ s.h.nt ∧ HP w w' (Fam s.h.nt 1 21 (g.Rt) :: Fam s.h.nt 1 21 (g.Ro) :: Fam s.h.m 1 21 (g.Rw) :: Fam s.h.m 1 21 (g.Ra) :: Blk qt s.h.nt (hdr (g.Rt)) :: Blk qo s.h.nt (hdr (g.Ro)) :: Blk qw s.h.m (hdr (g.Rw)) :: Blk qa s.h.m (hdr (g.Ra)) :: M)) (fun k => [(0, aval s.B.z0 s.B.b0 s.h.n), (2, aval s.h.zt s.h.bt s.h.n), (3, aval s.h.zi s.h.bi s.h.n), (4, .int .i64 s.h.m), (5, aval s.h.za s.h.ba s.h.nt), (16, .pointer (some ⟨s.B.gb, 0, none⟩)), (17, .int .i64 s.h.n), (18, .int .i64 s.h.nt), (21, .slice (some ⟨qa, 0, none⟩) s.h.m s.h.m), (22, .slice (some ⟨qw, 0, none⟩) s.h.m s.h.m), (23, .slice (some ⟨qo, 0, none⟩) s.h.nt s.h.nt), (24, .slice (some ⟨qt, 0, none⟩) s.h.nt s.h.nt), (37, .int .i64 k)]) (fun k => s.h.nt - k) 0 ⟨Nat.zero_le _, H27⟩ ⟨rfl, rfl, rfl, rfl, rfl, rfl, rfl, rfl, rfl, rfl, rfl, rfl, rfl, trivial⟩ ?_
                                            rintro k w28 ⟨hk, H28⟩
                                            refine CE_seq ?_
                                            refine CE_seq ?_
                                            refine CE_reg ?_
                                            refine EL_p (Pu_mv rfl) rfl ?_
                                            refine EL_p (Pu_mv rfl) rfl ?_
                                            refine EL_p (Pu_lss rfl rfl) rfl ?_
                                            refine EL_nil ?_
                                            refine CE_cP rfl (fun c420 => ?_) (fun c420 => ?_)
                                            · have hkl : k < s.h.nt := by omega
                                              have hxk := hxs k hkl
                                              have hxkl := hxk.len
                                              have htk := gi.tch k hkl
                                              have htkl := htk.len
                                              rw [List.length_map] at htkl
                                              have hlen2 : (tchF s.h k s.h.n).length = (xsF s.h k s.h.n).length := by rw [← tchF_items, List.length_map]
                                              have hxl2 := xsF_length s.h k s.h.n
                                              refine CE_skip ?_
                                              refine CE_seq ?_
                                              refine CE_block ?_
                                              refine CE_seq ?_
                                              refine CE_seq ?_
                                              refine CE_drawH H28 (fun w' => HP w w' (Fam s.h.nt 1 21 (g.Rt) :: Fam s.h.nt 1 21 (g.Ro) :: Fam s.h.m 1 21 (g.Rw) :: Fam s.h.m 1 21 (g.Ra) :: Blk qt s.h.nt (hdr (g.Rt)) :: Blk qo s.h.nt (hdr (g.Ro)) :: Blk qw s.h.m (hdr (g.Rw)) :: Blk qa s.h.m (hdr (g.Ra)) :: M)) [(0, 0), (1, 0), (3, 0), (4, 0), (5, 0), (6, 0), (7, 0), (2, 1), (8, 0)] mixed rfl (by kernel_rfl) (fun w29 H29 => ?_)
                                              refine AO_p rfl H29 (Pu.toIf (Pu_mv rfl)) rfl ?_
                                              refine AO_p rfl H29 (Pu.toIf (Pu_mv rfl)) rfl ?_
                                              refine AO_p rfl H29 (Pu.toIf (Pu_mv rfl)) rfl ?_
                                              refine AO_p rfl H29 (Pu.toIf (Pu_mv rfl)) rfl ?_
                                              refine AO_p rfl H29 (Pu.toIf (Pu_ix rfl rfl sl41 rfl hkl)) rfl ?_
                                              refine AO_p rfl H29 (Ld rfl fl24 (fun w' hh => hh.cell (j := 4) rfl hkl)) rfl ?_
                                              refine AO_p rfl H29 (Pu.toIf (Pu_len rfl sl24 rfl)) rfl ?_
                                              refine AO_L rfl rfl (Lo_call ca29 rfl ((tcount29 H29 gmA hkl).mono (fun y w30 hh => ⟨_, hh.1, hh.2, ?_⟩)))
                                              have H30 := hh.2
                                              refine AO_p rfl H30 (Pu.toIf (Pu_neq rfl rfl)) rfl ?_
                                              refine AO_nil ?_
                                              refine CE_cN rfl (fun c431 => ?_) (fun c431 => ?_)
                                              · exact absurd (show ((s.G.Rt k).len : Int) = ((g.Rt k).len : Int) by omega) c431 --stop
                                              · refine CE_skip ?_
                                                refine CE_seq ?_
                                                refine CE_reg ?_
                                                refine EL_p (Pu_as rfl) rfl ?_
                                                refine EL_nil ?_
                                                refine CE_block ?_
                                                refine CE_loop (fun (i : Nat) w' => i ≤ (xsF s.h k s.h.n).length ∧ HP w w' (Fam s.h.nt 1 21 (g.Rt) :: Fam s.h.nt 1 21 (g.Ro) :: Fam s.h.m 1 21 (g.Rw) :: Fam s.h.m 1 21 (g.Ra) :: Blk qt s.h.nt (hdr (g.Rt)) :: Blk qo s.h.nt (hdr (g.Ro)) :: Blk qw s.h.m (hdr (g.Rw)) :: Blk qa s.h.m (hdr (g.Ra)) :: M)) (fun i => [(0, aval s.B.z0 s.B.b0 s.h.n), (2, aval s.h.zt s.h.bt s.h.n), (3, aval s.h.zi s.h.bi s.h.n), (4, .int .i64 s.h.m), (5, aval s.h.za s.h.ba s.h.nt), (16, .pointer (some ⟨s.B.gb, 0, none⟩)), (17, .int .i64 s.h.n), (18, .int .i64 s.h.nt), (21, .slice (some ⟨qa, 0, none⟩) s.h.m s.h.m), (22, .slice (some ⟨qw, 0, none⟩) s.h.m s.h.m), (23, .slice (some ⟨qo, 0, none⟩) s.h.nt s.h.nt), (24, .slice (some ⟨qt, 0, none⟩) s.h.nt s.h.nt), (37, .int .i64 k), (38, .int .i64 i)]) (fun i => (xsF s.h k s.h.n).length - i) 0 ⟨Nat.zero_le _, H30⟩ ⟨rfl, rfl, rfl, rfl, rfl, rfl, rfl, rfl, rfl, rfl, rfl, rfl, rfl, rfl, trivial⟩ ?_
                                                rintro i w31 ⟨hi8, H31⟩
                                                refine CE_seq ?_
                                                refine CE_seq ?_
                                                refine CE_reg ?_
                                                refine EL_p (Pu_mv rfl) rfl ?_
                                                refine EL_p (Pu_mv rfl) rfl ?_
                                                refine EL_p (Pu_mv rfl) rfl ?_
                                                refine EL_p (Pu_ix rfl rfl sl41 rfl hkl) rfl ?_
                                                refine EL_ld rfl fl24 (H31.cell (j := 4) rfl hkl) rfl ?_
                                                refine EL_p (Pu_len rfl sl24 rfl) rfl ?_
                                                refine EL_p (Pu_lss rfl rfl) rfl ?_
                                                refine EL_nil ?_
                                                refine CE_cP rfl (fun c438 => ?_) (fun c438 => ?_)
                                                · have hil : i < (xsF s.h k s.h.n).length := by omega
                                                  have hit : i < (tchF s.h k s.h.n).length := by omega
                                                  have him : i < ((tchF s.h k s.h.n).map (finT s.h)).length := by rw [List.length_map]; exact hit
                                                  have hfc : ((tchF s.h k s.h.n).map (finT s.h)).getD i (newT 0) = finT s.h ((tchF s.h k s.h.n).getD i (newT 0)) := by simp [List.getD, hit]
                                                  have hone := tchF_at s.h k s.h.n i hit
                                                  have hitem := tchF_item ho k s.h.n (Nat.le_refl _) i hit
                                                  have hxi : (xsF s.h k s.h.n).getD i 0 = ((tchF s.h k s.h.n).getD i (newT 0)).item := by rw [← tchF_items]; simp [List.getD, hit]
                                                  refine CE_skip ?_
                                                  refine CE_seq ?_
                                                  refine CE_block ?_
                                                  refine CE_seq ?_
                                                  refine CE_reg ?_
                                                  refine EL_p (Pu_mv rfl) rfl ?_
                                                  refine EL_p (Pu_mv rfl) rfl ?_
                                                  refine EL_p (Pu_mv rfl) rfl ?_
                                                  refine EL_L rfl (Lo_call ca30 rfl ((touch30 H31 gmA hkl htk him).mono (fun y v32 hh => ⟨tval (finT s.h ((tchF s.h k s.h.n).getD i (newT 0))), hh.1.trans (by rw [hfc]), ?_⟩)))
                                                  have H32 := hh.2
                                                  obtain ⟨tb', htb, htv⟩ := H32.rblk (j := 0) rfl hkl (by omega)
                                                  refine EL_p (Pu_mv rfl) rfl ?_
                                                  refine EL_p (Pu_ext rfl rfl) rfl ?_
                                                  refine EL_p (Pu_ext rfl rfl) rfl ?_
                                                  refine EL_p (Pu_ext rfl rfl) rfl ?_
                                                  refine EL_p (Pu_ext rfl rfl) rfl ?_
                                                  refine EL_p (Pu_ext rfl rfl) rfl ?_
                                                  refine EL_p (Pu_ext rfl rfl) rfl ?_
                                                  refine EL_p (Pu_ext rfl rfl) rfl ?_
                                                  refine EL_p (Pu_ext rfl rfl) rfl ?_
                                                  refine EL_p (Pu_as rfl) rfl ?_
                                                  refine EL_p (Pu_as rfl) rfl ?_
                                                  refine EL_p (Pu_as rfl) rfl ?_
                                                  refine EL_p (Pu_as rfl) rfl ?_
                                                  refine EL_p (Pu_as rfl) rfl ?_
                                                  refine EL_p (Pu_as rfl) rfl ?_
                                                  refine EL_p (Pu_as rfl) rfl ?_
                                                  refine EL_p (Pu_as rfl) rfl ?_
                                                  refine EL_nil ?_
                                                  refine CE_seq ?_
                                                  refine CE_seq ?_
                                                  refine CE_reg ?_
                                                  refine EL_p (Pu_mv rfl) rfl ?_
                                                  refine EL_p (Pu_mv rfl) rfl ?_
                                                  refine EL_p (Pu_mv rfl) rfl ?_
                                                  first | (refine EL_p (Pu_ix rfl rfl sl41 rfl hkl) rfl ?_) | (refine EL_p (Pu_ix (congrArg some (show hdr g.Rt k = _ from htv)) rfl sl41 rfl (by omega)) rfl ?_)
                                                  first | (refine EL_ld rfl fl24 (H32.cell (j := 4) rfl hkl) rfl ?_) | (refine EL_ld rfl fl24 ((H32.rcell (j := 0) rfl hkl htb (i := i) (by omega)).trans (congrArg some (hxk.c i hil))) rfl ?_)
                                                  refine EL_p (Pu_mv rfl) rfl ?_
                                                  first | (refine EL_p (Pu_ix rfl rfl sl24 rfl hkl) rfl ?_) | (refine EL_p (Pu_ix (congrArg some (show hdr g.Rt k = _ from htv)) rfl sl24 rfl (by omega)) rfl ?_)
                                                  first | (refine EL_ld rfl fl21 (H32.cell (j := 4) rfl hkl) rfl ?_) | (refine EL_ld rfl fl21 ((H32.rcell (j := 0) rfl hkl htb (i := i) (by omega)).trans (congrArg some (hxk.c i hil))) rfl ?_)
                                                  refine EL_p (Pu_neq rfl rfl) rfl ?_
                                                  refine EL_nil ?_
                                                  refine CE_cN rfl (fun c462 => ?_) (fun c462 => ?_)
                                                  · exact absurd (show (((finT s.h ((tchF s.h k s.h.n).getD i (newT 0))).item : Nat) : Int) = (((xsF s.h k s.h.n).getD i 0 : Nat) : Int) by rw [hxi]; rfl) c462 --stop
                                                  · refine CE_skip ?_
                                                    refine CE_seq ?_
                                                    refine CE_reg ?_
                                                    refine EL_p (Pu_mv rfl) rfl ?_
                                                    refine EL_p (Pu_mv rfl) rfl ?_
                                                    refine EL_p (Pu_mv rfl) rfl ?_
                                                    refine EL_p (Pu_mv rfl) rfl ?_
                                                    refine EL_p (Pu_mv rfl) rfl ?_
                                                    refine EL_p (Pu_cnv rfl in3 in21 (w32 (by omega))) rfl ?_
                                                    refine EL_p (Pu_mv rfl) rfl ?_
                                                    refine EL_L rfl (Lo_call ca37 rfl ((model37 H32 gmA ho hkl hitem hone rfl).mono (fun y w33 hh => ⟨_, hh.1, ?_⟩)))
                                                    have H33 := hh.2
                                                    refine EL_p (Pu_mv rfl) rfl ?_
                                                    refine EL_p (Pu_ext rfl rfl) rfl ?_
                                                    refine EL_p (Pu_ext rfl rfl) rfl ?_
                                                    refine EL_p (Pu_ext rfl rfl) rfl ?_
                                                    refine EL_p (Pu_ext rfl rfl) rfl ?_
                                                    refine EL_p (Pu_ext rfl rfl) rfl ?_
                                                    refine EL_p (Pu_ext rfl rfl) rfl ?_
                                                    refine EL_p (Pu_ext rfl rfl) rfl ?_
                                                    refine EL_p (Pu_as rfl) rfl ?_
                                                    refine EL_p (Pu_as rfl) rfl ?_
                                                    refine EL_p (Pu_as rfl) rfl ?_
                                                    refine EL_p (Pu_as rfl) rfl ?_
                                                    refine EL_p (Pu_as rfl) rfl ?_
                                                    refine EL_p (Pu_as rfl) rfl ?_
                                                    refine EL_p (Pu_as rfl) rfl ?_
                                                    refine EL_nil ?_
                                                    refine CE_seq ?_
                                                    refine CE_reg ?_
                                                    refine EL_p (Pu_mv rfl) rfl ?_
                                                    refine EL_p (Pu_mv rfl) rfl ?_
                                                    refine EL_p (Pu_neq rfl rfl) rfl ?_
                                                    refine EL_p (Pu_mv rfl) rfl ?_
                                                    refine EL_gN rfl rfl (fun g482 => ?_) (fun g482 => ?_)
                                                    · exact absurd rfl g482 --stop
                                                    · refine EL_yes rfl rfl ?_
                                                      refine EL_p (Pu_mv rfl) rfl ?_
                                                      refine EL_yes rfl rfl ?_
                                                      refine EL_p (Pu_mv rfl) rfl ?_
                                                      refine EL_yes rfl rfl ?_
                                                      refine EL_p (Pu_neq rfl rfl) rfl ?_
                                                      refine EL_p (Pu_pf rfl rfl) rfl ?_
                                                      refine EL_p (Pu_mv rfl) rfl ?_
                                                      refine EL_gN rfl rfl (fun g487 => ?_) (fun g487 => ?_)
                                                      · exact absurd rfl g487 --stop
                                                      · refine EL_yes rfl rfl ?_
                                                        refine EL_p (Pu_mv rfl) rfl ?_
                                                        refine EL_yes rfl rfl ?_
                                                        refine EL_p (Pu_mv rfl) rfl ?_
                                                        refine EL_yes rfl rfl ?_
                                                        refine EL_p (Pu_neq rfl rfl) rfl ?_
                                                        refine EL_p (Pu_pf rfl rfl) rfl ?_
                                                        refine EL_p (Pu_mv rfl) rfl ?_
                                                        refine EL_gN rfl rfl (fun g492 => ?_) (fun g492 => ?_)
                                                        · exact absurd rfl g492 --stop
                                                        · refine EL_yes rfl rfl ?_
                                                          refine EL_p (Pu_mv rfl) rfl ?_
                                                          refine EL_yes rfl rfl ?_
                                                          refine EL_p (Pu_mv rfl) rfl ?_
                                                          refine EL_yes rfl rfl ?_
                                                          refine EL_p (Pu_neq rfl rfl) rfl ?_
                                                          refine EL_p (Pu_pf rfl rfl) rfl ?_
                                                          refine EL_p (Pu_mv rfl) rfl ?_
                                                          refine EL_gN rfl rfl (fun g497 => ?_) (fun g497 => ?_)
                                                          · exact absurd rfl g497 --stop
                                                          · refine EL_yes rfl rfl ?_
                                                            refine EL_p (Pu_mv rfl) rfl ?_
                                                            refine EL_yes rfl rfl ?_
                                                            refine EL_p (Pu_mv rfl) rfl ?_
                                                            refine EL_yes rfl rfl ?_
                                                            refine EL_p (Pu_neqB rfl rfl Try.underlying4) rfl ?_
                                                            refine EL_p (Pu_pf rfl rfl) rfl ?_
                                                            refine EL_p (Pu_mv rfl) rfl ?_
                                                            refine EL_gB rfl rfl (fun g502 => ?_) (fun g502 => ?_)
                                                            · exact absurd g502 (by simp) --stop
                                                            · refine EL_yes rfl rfl ?_
                                                              refine EL_p (Pu_mv rfl) rfl ?_
                                                              refine EL_yes rfl rfl ?_
                                                              refine EL_p (Pu_mv rfl) rfl ?_
                                                              refine EL_yes rfl rfl ?_
                                                              refine EL_p (Pu_neq rfl rfl) rfl ?_
                                                              refine EL_p (Pu_pf rfl rfl) rfl ?_
                                                              refine EL_p (Pu_mv rfl) rfl ?_
                                                              refine EL_gN rfl rfl (fun g507 => ?_) (fun g507 => ?_)
                                                              · exact absurd rfl g507 --stop
                                                              · refine EL_yes rfl rfl ?_
                                                                refine EL_p (Pu_mv rfl) rfl ?_
                                                                refine EL_yes rfl rfl ?_
                                                                refine EL_p (Pu_mv rfl) rfl ?_
                                                                refine EL_yes rfl rfl ?_
                                                                refine EL_p (Pu_neqB rfl rfl Try.underlying4) rfl ?_
                                                                refine EL_p (Pu_pf rfl rfl) rfl ?_
                                                                refine EL_nil ?_
                                                                refine CE_cond rfl (fun c511 => ?_) (fun c511 => ?_)
                                                                · exact absurd c511 (by simp) --stop
                                                                · refine CE_skip ?_
                                                                  refine CE_reg ?_
                                                                  refine EL_p (Pu_mv rfl) rfl ?_
                                                                  refine EL_p (Pu_add rfl rfl (w64 (by omega))) rfl ?_
                                                                  refine EL_p (Pu_as rfl) rfl ?_
                                                                  refine EL_nil ?_
                                                                  exact ⟨i + 1, by omega, ⟨rfl, rfl, rfl, rfl, rfl, rfl, rfl, rfl, rfl, rfl, rfl, rfl, rfl, rfl, trivial⟩, hil, H33⟩
                                                · refine CE_exit ?_
                                                  refine CE_reg ?_
                                                  refine EL_p (Pu_mv rfl) rfl ?_
                                                  refine EL_p (Pu_add rfl rfl (w64 (by omega))) rfl ?_
                                                  refine EL_p (Pu_as rfl) rfl ?_
                                                  refine EL_nil ?_
                                                  exact ⟨k + 1, by omega, ⟨rfl, rfl, rfl, rfl, rfl, rfl, rfl, rfl, rfl, rfl, rfl, rfl, rfl, trivial⟩, hkl, H31⟩
                                            · refine CE_exit ?_
                                              refine CE_seq ?_
                                              refine CE_reg ?_
                                              refine EL_p (Pu_as rfl) rfl ?_
                                              refine EL_nil ?_
                                              refine CE_ret ?_
                                              exact ⟨_, rfl, rfl, H28.below⟩
end Go.Proofs.Qxb6602549a
