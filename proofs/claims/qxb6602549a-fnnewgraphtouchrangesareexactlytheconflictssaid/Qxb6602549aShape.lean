/-
  shapeOK, endsOK, serialHistory: what a yes of each says.
-/
import Derived.Test.Qxb6602549aClones
namespace Go.Proofs.Qxb6602549a
open Go Go.RowKit
set_option linter.unusedSimpArgs false
set_option linter.unusedVariables false

def OpOK (A T I : Nat → Int) (nt : Nat) (m : Int) (p : Nat) : Prop :=
  0 ≤ T p ∧ T p < nt ∧ (((A p = 114 ∨ A p = 119) ∧ 0 ≤ I p ∧ I p < m) ∨ ((A p = 99 ∨ A p = 97) ∧ I p = -1))

structure Shape (l0 l1 l2 l3 l5 : Nat) (A T I : Nat → Int) (m : Int) : Prop where
  e2 : l2 = l0
  e3 : l3 = l0
  e5 : l5 = l1
  m0 : 0 ≤ m
  ok : ∀ p, p < l0 → OpOK A T I l1 m p

theorem shape10 {W0 w : World} {L : List Chunk} {a0 a1 a2 a3 a5 : Option Addr} {l0 l1 l2 l3 l5 c0 c1 c2 c3 c5 : Nat} {A T I : Nat → Int} {m : Int} (H : HP W0 w L)
    (s0 : Src W0 a0 l0 (fun i => .int .u8 (A i))) (s2 : Src W0 a2 l2 (fun i => .int .i32 (T i))) (s3 : Src W0 a3 l3 (fun i => .int .i32 (I i)))
    (hT : ∀ i, i < l2 → -2147483648 ≤ T i ∧ T i ≤ 2147483647) (hI : ∀ i, i < l3 → -2147483648 ≤ I i ∧ I i ≤ 2147483647) (h0 : l0 ≤ 1048576) :
    Calls Try.prog 10 #[.slice a0 l0 c0, .slice a1 l1 c1, .slice a2 l2 c2, .slice a3 l3 c3, .int .i64 m, .slice a5 l5 c5] w fun x w' => ∃ b, x = .returned (.bool b) ∧ (b = true → Shape l0 l1 l2 l3 l5 A T I m) ∧ HP W0 w' L := by
  refine calls_CE Try.func10 rfl Try.ntmps10 rfl rfl ?_
  refine CE_seq ?_
  refine CE_reg ?_
  refine EL_p (Pu_as rfl) rfl ?_
  refine EL_nil ?_
  refine CE_seq ?_
  refine CE_reg ?_
  refine EL_p (Pu_mv rfl) rfl ?_
  refine EL_p (Pu_len rfl sl22 rfl) rfl ?_
  refine EL_p (Pu_as rfl) rfl ?_
  refine EL_nil ?_
  refine CE_seq ?_
  refine CE_reg ?_
  refine EL_p (Pu_mv rfl) rfl ?_
  refine EL_p (Pu_len rfl sl23 rfl) rfl ?_
  refine EL_p (Pu_as rfl) rfl ?_
  refine EL_nil ?_
  refine CE_seq ?_
  refine CE_seq ?_
  refine CE_reg ?_
  refine EL_p (Pu_mv rfl) rfl ?_
  refine EL_p (Pu_len rfl sl24 rfl) rfl ?_
  refine EL_p (Pu_mv rfl) rfl ?_
  refine EL_p (Pu_neq rfl rfl) rfl ?_
  refine EL_p (Pu_mv rfl) rfl ?_
  refine EL_gN rfl rfl (fun g27 => ?_) (fun g27 => ?_)
  · refine EL_no rfl rfl rfl rfl ?_
    refine EL_no rfl rfl rfl rfl ?_
    refine EL_no rfl rfl rfl rfl ?_
    refine EL_no rfl rfl rfl rfl ?_
    refine EL_p (Pu_pt rfl rfl) rfl ?_
    refine EL_p (Pu_mv rfl) rfl ?_
    refine EL_no rfl rfl rfl rfl ?_
    refine EL_no rfl rfl rfl rfl ?_
    refine EL_no rfl rfl rfl rfl ?_
    refine EL_no rfl rfl rfl rfl ?_
    refine EL_p (Pu_pt rfl rfl) rfl ?_
    refine EL_nil ?_
    refine CE_cond_t rfl ?_
    refine CE_seq ?_
    refine CE_reg ?_
    refine EL_p (Pu_as rfl) rfl ?_
    refine EL_nil ?_
    refine CE_ret ?_
    first | exact ⟨_, rfl, false, rfl, by simp, H⟩ | exact ⟨_, rfl, false, rfl, by simp, H2⟩ | exact ⟨_, rfl, true, rfl, fun _ => ⟨rfl, rfl, rfl, by omega, fun q hq' => hok q (by omega)⟩, H2⟩
  · refine EL_yes rfl rfl ?_
    refine EL_p (Pu_mv rfl) rfl ?_
    refine EL_yes rfl rfl ?_
    refine EL_p (Pu_len rfl sl24 rfl) rfl ?_
    refine EL_yes rfl rfl ?_
    refine EL_p (Pu_mv rfl) rfl ?_
    refine EL_yes rfl rfl ?_
    refine EL_p (Pu_neq rfl rfl) rfl ?_
    refine EL_p (Pu_pf rfl rfl) rfl ?_
    refine EL_p (Pu_mv rfl) rfl ?_
    refine EL_gN rfl rfl (fun g33 => ?_) (fun g33 => ?_)
    · refine EL_no rfl rfl rfl rfl ?_
      refine EL_no rfl rfl rfl rfl ?_
      refine EL_no rfl rfl rfl rfl ?_
      refine EL_no rfl rfl rfl rfl ?_
      refine EL_p (Pu_pt rfl rfl) rfl ?_
      refine EL_nil ?_
      refine CE_cond_t rfl ?_
      refine CE_seq ?_
      refine CE_reg ?_
      refine EL_p (Pu_as rfl) rfl ?_
      refine EL_nil ?_
      refine CE_ret ?_
      first | exact ⟨_, rfl, false, rfl, by simp, H⟩ | exact ⟨_, rfl, false, rfl, by simp, H2⟩ | exact ⟨_, rfl, true, rfl, fun _ => ⟨rfl, rfl, rfl, by omega, fun q hq' => hok q (by omega)⟩, H2⟩
    · refine EL_yes rfl rfl ?_
      refine EL_p (Pu_mv rfl) rfl ?_
      refine EL_yes rfl rfl ?_
      refine EL_p (Pu_len rfl sl25 rfl) rfl ?_
      refine EL_yes rfl rfl ?_
      refine EL_p (Pu_mv rfl) rfl ?_
      refine EL_yes rfl rfl ?_
      refine EL_p (Pu_neq rfl rfl) rfl ?_
      refine EL_p (Pu_pf rfl rfl) rfl ?_
      refine EL_nil ?_
      refine CE_cN rfl (fun c38 => ?_) (fun c38 => ?_)
      · refine CE_seq ?_
        refine CE_reg ?_
        refine EL_p (Pu_as rfl) rfl ?_
        refine EL_nil ?_
        refine CE_ret ?_
        first | exact ⟨_, rfl, false, rfl, by simp, H⟩ | exact ⟨_, rfl, false, rfl, by simp, H2⟩ | exact ⟨_, rfl, true, rfl, fun _ => ⟨rfl, rfl, rfl, by omega, fun q hq' => hok q (by omega)⟩, H2⟩
      · refine CE_skip ?_
        refine CE_seq ?_
        refine CE_seq ?_
        refine CE_reg ?_
        refine EL_p (Pu_mv rfl) rfl ?_
        refine EL_p (Pu_lss rfl rfl) rfl ?_
        refine EL_nil ?_
        refine CE_cP rfl (fun c40 => ?_) (fun c40 => ?_)
        · refine CE_seq ?_
          refine CE_reg ?_
          refine EL_p (Pu_as rfl) rfl ?_
          refine EL_nil ?_
          refine CE_ret ?_
          first | exact ⟨_, rfl, false, rfl, by simp, H⟩ | exact ⟨_, rfl, false, rfl, by simp, H2⟩ | exact ⟨_, rfl, true, rfl, fun _ => ⟨rfl, rfl, rfl, by omega, fun q hq' => hok q (by omega)⟩, H2⟩
        · refine CE_skip ?_
          refine CE_seq ?_
          refine CE_seq ?_
          refine CE_reg ?_
          refine EL_p (Pu_as rfl) rfl ?_
          refine EL_nil ?_
          refine CE_block ?_
          have e2 : l2 = l0 := by omega
          have e3 : l3 = l0 := by omega
          have e5 : l5 = l1 := by omega
          subst e2; subst e3; subst e5
          refine CE_loop (fun (p : Nat) w' => p ≤ l3 ∧ HP W0 w' L ∧ ∀ q, q < p → OpOK A T I l5 m q)
            (fun p => [(0, .slice a0 l3 c0), (1, .slice a1 l5 c1), (2, .slice a2 l3 c2), (3, .slice a3 l3 c3), (4, .int .i64 m), (5, .slice a5 l5 c5), (13, .int .i64 l3), (14, .int .i64 l5), (15, .int .i64 p)]) (fun p => l3 - p) 0
            ⟨by omega, H, by omega⟩ ⟨rfl, rfl, rfl, rfl, rfl, rfl, rfl, rfl, rfl, trivial⟩ ?_
          rintro p w2 ⟨hp, H2, hok⟩
          refine CE_seq ?_
          refine CE_seq ?_
          refine CE_reg ?_
          refine EL_p (Pu_mv rfl) rfl ?_
          refine EL_p (Pu_mv rfl) rfl ?_
          refine EL_p (Pu_lss rfl rfl) rfl ?_
          refine EL_nil ?_
          refine CE_cP rfl (fun c43 => ?_) (fun c43 => ?_)
          · have hlt : p < l3 := by omega
            obtain ⟨b0, o0, rfl, hb0, hc0⟩ := s0.at hlt
            obtain ⟨b2, o2, rfl, hb2, hc2⟩ := s2.at hlt
            obtain ⟨b3, o3, rfl, hb3, hc3⟩ := s3.at hlt
            have hTp := hT p hlt
            have hIp := hI p hlt
            refine CE_skip ?_
            refine CE_seq ?_
            refine CE_block ?_
            refine CE_seq ?_
            refine CE_reg ?_
            refine EL_p (Pu_mv rfl) rfl ?_
            refine EL_p (Pu_mv rfl) rfl ?_
            refine EL_p (Pu_ixo rfl rfl sl24 rfl hlt) rfl ?_
            first | (refine EL_ld rfl fl21 ((H2.old hb2).trans (hc2 p hlt)) rfl ?_) | (refine EL_ld rfl fl21 ((H2.old hb3).trans (hc3 p hlt)) rfl ?_) | (refine EL_ld rfl fl21 ((H2.old hb0).trans (hc0 p hlt)) rfl ?_)
            refine EL_p (Pu_as rfl) rfl ?_
            refine EL_nil ?_
            refine CE_seq ?_
            refine CE_seq ?_
            refine CE_reg ?_
            refine EL_p (Pu_mv rfl) rfl ?_
            refine EL_p (Pu_lss rfl rfl) rfl ?_
            refine EL_p (Pu_mv rfl) rfl ?_
            refine EL_gP rfl rfl (fun g52 => ?_) (fun g52 => ?_)
            · refine EL_no rfl rfl rfl rfl ?_
              refine EL_no rfl rfl rfl rfl ?_
              refine EL_no rfl rfl rfl rfl ?_
              refine EL_no rfl rfl rfl rfl ?_
              refine EL_p (Pu_pt rfl rfl) rfl ?_
              refine EL_nil ?_
              refine CE_cond_t rfl ?_
              refine CE_seq ?_
              refine CE_reg ?_
              refine EL_p (Pu_as rfl) rfl ?_
              refine EL_nil ?_
              refine CE_ret ?_
              first | exact ⟨_, rfl, false, rfl, by simp, H⟩ | exact ⟨_, rfl, false, rfl, by simp, H2⟩ | exact ⟨_, rfl, true, rfl, fun _ => ⟨rfl, rfl, rfl, by omega, fun q hq' => hok q (by omega)⟩, H2⟩
            · refine EL_yes rfl rfl ?_
              refine EL_p (Pu_mv rfl) rfl ?_
              refine EL_yes rfl rfl ?_
              refine EL_p (Pu_cnv rfl in21 in3 (w64 (by omega))) rfl ?_
              refine EL_yes rfl rfl ?_
              refine EL_p (Pu_mv rfl) rfl ?_
              refine EL_yes rfl rfl ?_
              refine EL_p (Pu_geq rfl rfl) rfl ?_
              refine EL_p (Pu_pf rfl rfl) rfl ?_
              refine EL_nil ?_
              refine CE_cP rfl (fun c57 => ?_) (fun c57 => ?_)
              · refine CE_seq ?_
                refine CE_reg ?_
                refine EL_p (Pu_as rfl) rfl ?_
                refine EL_nil ?_
                refine CE_ret ?_
                first | exact ⟨_, rfl, false, rfl, by simp, H⟩ | exact ⟨_, rfl, false, rfl, by simp, H2⟩ | exact ⟨_, rfl, true, rfl, fun _ => ⟨rfl, rfl, rfl, by omega, fun q hq' => hok q (by omega)⟩, H2⟩
              · refine CE_skip ?_
                refine CE_seq ?_
                refine CE_reg ?_
                refine EL_p (Pu_mv rfl) rfl ?_
                refine EL_p (Pu_mv rfl) rfl ?_
                refine EL_p (Pu_ixo rfl rfl sl22 rfl hlt) rfl ?_
                first | (refine EL_ld rfl fl5 ((H2.old hb2).trans (hc2 p hlt)) rfl ?_) | (refine EL_ld rfl fl5 ((H2.old hb3).trans (hc3 p hlt)) rfl ?_) | (refine EL_ld rfl fl5 ((H2.old hb0).trans (hc0 p hlt)) rfl ?_)
                refine EL_p (Pu_as rfl) rfl ?_
                refine EL_nil ?_
                refine CE_seq ?_
                refine CE_reg ?_
                refine EL_p (Pu_mv rfl) rfl ?_
                refine EL_p (Pu_mv rfl) rfl ?_
                refine EL_p (Pu_ixo rfl rfl sl24 rfl hlt) rfl ?_
                first | (refine EL_ld rfl fl21 ((H2.old hb2).trans (hc2 p hlt)) rfl ?_) | (refine EL_ld rfl fl21 ((H2.old hb3).trans (hc3 p hlt)) rfl ?_) | (refine EL_ld rfl fl21 ((H2.old hb0).trans (hc0 p hlt)) rfl ?_)
                refine EL_p (Pu_as rfl) rfl ?_
                refine EL_nil ?_
                refine CE_seq ?_
                refine CE_reg ?_
                refine EL_p (Pu_mv rfl) rfl ?_
                refine EL_p (Pu_eql rfl rfl) rfl ?_
                refine EL_p (Pu_mv rfl) rfl ?_
                refine EL_gP rfl rfl (fun g68 => ?_) (fun g68 => ?_)
                · refine EL_no rfl rfl rfl rfl ?_
                  refine EL_no rfl rfl rfl rfl ?_
                  refine EL_p (Pu_pt rfl rfl) rfl ?_
                  refine EL_nil ?_
                  refine CE_cond_t rfl ?_
                  refine CE_seq ?_
                  refine CE_reg ?_
                  refine EL_p (Pu_mv rfl) rfl ?_
                  refine EL_p (Pu_lss rfl rfl) rfl ?_
                  refine EL_p (Pu_mv rfl) rfl ?_
                  refine EL_gP rfl rfl (fun g74 => ?_) (fun g74 => ?_)
                  · refine EL_no rfl rfl rfl rfl ?_
                    refine EL_no rfl rfl rfl rfl ?_
                    refine EL_no rfl rfl rfl rfl ?_
                    refine EL_no rfl rfl rfl rfl ?_
                    refine EL_p (Pu_pt rfl rfl) rfl ?_
                    refine EL_nil ?_
                    refine CE_cond_t rfl ?_
                    refine CE_seq ?_
                    refine CE_reg ?_
                    refine EL_p (Pu_as rfl) rfl ?_
                    refine EL_nil ?_
                    refine CE_ret ?_
                    first | exact ⟨_, rfl, false, rfl, by simp, H⟩ | exact ⟨_, rfl, false, rfl, by simp, H2⟩ | exact ⟨_, rfl, true, rfl, fun _ => ⟨rfl, rfl, rfl, by omega, fun q hq' => hok q (by omega)⟩, H2⟩
                  · refine EL_yes rfl rfl ?_
                    refine EL_p (Pu_mv rfl) rfl ?_
                    refine EL_yes rfl rfl ?_
                    refine EL_p (Pu_cnv rfl in21 in3 (w64 (by omega))) rfl ?_
                    refine EL_yes rfl rfl ?_
                    refine EL_p (Pu_mv rfl) rfl ?_
                    refine EL_yes rfl rfl ?_
                    refine EL_p (Pu_geq rfl rfl) rfl ?_
                    refine EL_p (Pu_pf rfl rfl) rfl ?_
                    refine EL_nil ?_
                    refine CE_cP rfl (fun c79 => ?_) (fun c79 => ?_)
                    · refine CE_seq ?_
                      refine CE_reg ?_
                      refine EL_p (Pu_as rfl) rfl ?_
                      refine EL_nil ?_
                      refine CE_ret ?_
                      first | exact ⟨_, rfl, false, rfl, by simp, H⟩ | exact ⟨_, rfl, false, rfl, by simp, H2⟩ | exact ⟨_, rfl, true, rfl, fun _ => ⟨rfl, rfl, rfl, by omega, fun q hq' => hok q (by omega)⟩, H2⟩
                    · refine CE_skip ?_
                      refine CE_reg ?_
                      refine EL_p (Pu_mv rfl) rfl ?_
                      refine EL_p (Pu_add rfl rfl (w64 (by omega))) rfl ?_
                      refine EL_p (Pu_as rfl) rfl ?_
                      refine EL_nil ?_
                      refine ⟨p + 1, by omega, ⟨rfl, rfl, rfl, rfl, rfl, rfl, rfl, rfl, rfl, trivial⟩, by omega, H2, fun q hq' => ?_⟩
                      by_cases hqp : q = p
                      · subst hqp
                        unfold OpOK
                        omega
                      · exact hok q (by omega)
                · refine EL_yes rfl rfl ?_
                  refine EL_p (Pu_mv rfl) rfl ?_
                  refine EL_yes rfl rfl ?_
                  refine EL_p (Pu_eql rfl rfl) rfl ?_
                  refine EL_p (Pu_pf rfl rfl) rfl ?_
                  refine EL_nil ?_
                  refine CE_cP rfl (fun c71 => ?_) (fun c71 => ?_)
                  · refine CE_seq ?_
                    refine CE_reg ?_
                    refine EL_p (Pu_mv rfl) rfl ?_
                    refine EL_p (Pu_lss rfl rfl) rfl ?_
                    refine EL_p (Pu_mv rfl) rfl ?_
                    refine EL_gP rfl rfl (fun g74 => ?_) (fun g74 => ?_)
                    · refine EL_no rfl rfl rfl rfl ?_
                      refine EL_no rfl rfl rfl rfl ?_
                      refine EL_no rfl rfl rfl rfl ?_
                      refine EL_no rfl rfl rfl rfl ?_
                      refine EL_p (Pu_pt rfl rfl) rfl ?_
                      refine EL_nil ?_
                      refine CE_cond_t rfl ?_
                      refine CE_seq ?_
                      refine CE_reg ?_
                      refine EL_p (Pu_as rfl) rfl ?_
                      refine EL_nil ?_
                      refine CE_ret ?_
                      first | exact ⟨_, rfl, false, rfl, by simp, H⟩ | exact ⟨_, rfl, false, rfl, by simp, H2⟩ | exact ⟨_, rfl, true, rfl, fun _ => ⟨rfl, rfl, rfl, by omega, fun q hq' => hok q (by omega)⟩, H2⟩
                    · refine EL_yes rfl rfl ?_
                      refine EL_p (Pu_mv rfl) rfl ?_
                      refine EL_yes rfl rfl ?_
                      refine EL_p (Pu_cnv rfl in21 in3 (w64 (by omega))) rfl ?_
                      refine EL_yes rfl rfl ?_
                      refine EL_p (Pu_mv rfl) rfl ?_
                      refine EL_yes rfl rfl ?_
                      refine EL_p (Pu_geq rfl rfl) rfl ?_
                      refine EL_p (Pu_pf rfl rfl) rfl ?_
                      refine EL_nil ?_
                      refine CE_cP rfl (fun c79 => ?_) (fun c79 => ?_)
                      · refine CE_seq ?_
                        refine CE_reg ?_
                        refine EL_p (Pu_as rfl) rfl ?_
                        refine EL_nil ?_
                        refine CE_ret ?_
                        first | exact ⟨_, rfl, false, rfl, by simp, H⟩ | exact ⟨_, rfl, false, rfl, by simp, H2⟩ | exact ⟨_, rfl, true, rfl, fun _ => ⟨rfl, rfl, rfl, by omega, fun q hq' => hok q (by omega)⟩, H2⟩
                      · refine CE_skip ?_
                        refine CE_reg ?_
                        refine EL_p (Pu_mv rfl) rfl ?_
                        refine EL_p (Pu_add rfl rfl (w64 (by omega))) rfl ?_
                        refine EL_p (Pu_as rfl) rfl ?_
                        refine EL_nil ?_
                        refine ⟨p + 1, by omega, ⟨rfl, rfl, rfl, rfl, rfl, rfl, rfl, rfl, rfl, trivial⟩, by omega, H2, fun q hq' => ?_⟩
                        by_cases hqp : q = p
                        · subst hqp
                          unfold OpOK
                          omega
                        · exact hok q (by omega)
                  · refine CE_seq ?_
                    refine CE_reg ?_
                    refine EL_p (Pu_mv rfl) rfl ?_
                    refine EL_p (Pu_eql rfl rfl) rfl ?_
                    refine EL_p (Pu_mv rfl) rfl ?_
                    refine EL_gP rfl rfl (fun g82 => ?_) (fun g82 => ?_)
                    · refine EL_no rfl rfl rfl rfl ?_
                      refine EL_no rfl rfl rfl rfl ?_
                      refine EL_p (Pu_pt rfl rfl) rfl ?_
                      refine EL_nil ?_
                      refine CE_cond_t rfl ?_
                      refine CE_seq ?_
                      refine CE_reg ?_
                      refine EL_p (Pu_mv rfl) rfl ?_
                      refine EL_p (Pu_neq rfl rfl) rfl ?_
                      refine EL_nil ?_
                      refine CE_cN rfl (fun c87 => ?_) (fun c87 => ?_)
                      · refine CE_seq ?_
                        refine CE_reg ?_
                        refine EL_p (Pu_as rfl) rfl ?_
                        refine EL_nil ?_
                        refine CE_ret ?_
                        first | exact ⟨_, rfl, false, rfl, by simp, H⟩ | exact ⟨_, rfl, false, rfl, by simp, H2⟩ | exact ⟨_, rfl, true, rfl, fun _ => ⟨rfl, rfl, rfl, by omega, fun q hq' => hok q (by omega)⟩, H2⟩
                      · refine CE_skip ?_
                        refine CE_reg ?_
                        refine EL_p (Pu_mv rfl) rfl ?_
                        refine EL_p (Pu_add rfl rfl (w64 (by omega))) rfl ?_
                        refine EL_p (Pu_as rfl) rfl ?_
                        refine EL_nil ?_
                        refine ⟨p + 1, by omega, ⟨rfl, rfl, rfl, rfl, rfl, rfl, rfl, rfl, rfl, trivial⟩, by omega, H2, fun q hq' => ?_⟩
                        by_cases hqp : q = p
                        · subst hqp
                          unfold OpOK
                          omega
                        · exact hok q (by omega)
                    · refine EL_yes rfl rfl ?_
                      refine EL_p (Pu_mv rfl) rfl ?_
                      refine EL_yes rfl rfl ?_
                      refine EL_p (Pu_eql rfl rfl) rfl ?_
                      refine EL_p (Pu_pf rfl rfl) rfl ?_
                      refine EL_nil ?_
                      refine CE_cP rfl (fun c85 => ?_) (fun c85 => ?_)
                      · refine CE_seq ?_
                        refine CE_reg ?_
                        refine EL_p (Pu_mv rfl) rfl ?_
                        refine EL_p (Pu_neq rfl rfl) rfl ?_
                        refine EL_nil ?_
                        refine CE_cN rfl (fun c87 => ?_) (fun c87 => ?_)
                        · refine CE_seq ?_
                          refine CE_reg ?_
                          refine EL_p (Pu_as rfl) rfl ?_
                          refine EL_nil ?_
                          refine CE_ret ?_
                          first | exact ⟨_, rfl, false, rfl, by simp, H⟩ | exact ⟨_, rfl, false, rfl, by simp, H2⟩ | exact ⟨_, rfl, true, rfl, fun _ => ⟨rfl, rfl, rfl, by omega, fun q hq' => hok q (by omega)⟩, H2⟩
                        · refine CE_skip ?_
                          refine CE_reg ?_
                          refine EL_p (Pu_mv rfl) rfl ?_
                          refine EL_p (Pu_add rfl rfl (w64 (by omega))) rfl ?_
                          refine EL_p (Pu_as rfl) rfl ?_
                          refine EL_nil ?_
                          refine ⟨p + 1, by omega, ⟨rfl, rfl, rfl, rfl, rfl, rfl, rfl, rfl, rfl, trivial⟩, by omega, H2, fun q hq' => ?_⟩
                          by_cases hqp : q = p
                          · subst hqp
                            unfold OpOK
                            omega
                          · exact hok q (by omega)
                      · refine CE_seq ?_
                        refine CE_reg ?_
                        refine EL_p (Pu_as rfl) rfl ?_
                        refine EL_nil ?_
                        refine CE_ret ?_
                        first | exact ⟨_, rfl, false, rfl, by simp, H⟩ | exact ⟨_, rfl, false, rfl, by simp, H2⟩ | exact ⟨_, rfl, true, rfl, fun _ => ⟨rfl, rfl, rfl, by omega, fun q hq' => hok q (by omega)⟩, H2⟩
          · refine CE_exit ?_
            refine CE_seq ?_
            refine CE_reg ?_
            refine EL_p (Pu_as rfl) rfl ?_
            refine EL_nil ?_
            refine CE_ret ?_
            first | exact ⟨_, rfl, false, rfl, by simp, H⟩ | exact ⟨_, rfl, false, rfl, by simp, H2⟩ | exact ⟨_, rfl, true, rfl, fun _ => ⟨rfl, rfl, rfl, by omega, fun q hq' => hok q (by omega)⟩, H2⟩

structure Ends (n nt : Nat) (A T : Nat → Int) (B : Nat → Bool) (E : Nat → Int) : Prop where
  rng : ∀ t, t < nt → 0 ≤ E t ∧ E t ≤ n
  own : ∀ t, t < nt → E t < n → T (E t).toNat = t ∧ (A (E t).toNat = 99 ∨ A (E t).toNat = 97)
  ab : ∀ t, t < nt → (B t = true ↔ E t < n ∧ A (E t).toNat = 97)
  aft : ∀ p : Nat, p < n → (p : Int) ≤ E (T p).toNat ∧ ((A p = 99 ∨ A p = 97) → E (T p).toNat = p)

set_option maxHeartbeats 1000000 in
theorem ends11 {W0 w : World} {L : List Chunk} {a0 a2 a5 a6 : Option Addr} {n nt l6 c0 c2 c5 c6 : Nat} {A T E : Nat → Int} {B : Nat → Bool} (H : HP W0 w L)
    (s0 : Src W0 a0 n (fun i => .int .u8 (A i))) (s2 : Src W0 a2 n (fun i => .int .i32 (T i))) (s5 : Src W0 a5 nt (fun i => .bool (B i))) (s6 : Src W0 a6 l6 (fun i => .int .i64 (E i)))
    (hT : ∀ i, i < n → -2147483648 ≤ T i ∧ T i ≤ 2147483647) (hTr : ∀ i, i < n → 0 ≤ T i ∧ T i < nt) (h0 : n ≤ 1048576) (h6 : l6 ≤ 1048576) :
    Calls Try.prog 11 #[.slice a0 n c0, .slice a2 n c2, .slice a5 nt c5, .slice a6 l6 c6] w fun x w' => ∃ b, x = .returned (.bool b) ∧ (b = true → l6 = nt ∧ Ends n nt A T B E) ∧ HP W0 w' L := by
  refine calls_CE Try.func11 rfl Try.ntmps11 rfl rfl ?_
  refine CE_seq ?_
  refine CE_reg ?_
  refine EL_p (Pu_as rfl) rfl ?_
  refine EL_nil ?_
  refine CE_seq ?_
  refine CE_reg ?_
  refine EL_p (Pu_mv rfl) rfl ?_
  refine EL_p (Pu_len rfl sl22 rfl) rfl ?_
  refine EL_p (Pu_as rfl) rfl ?_
  refine EL_nil ?_
  refine CE_seq ?_
  refine CE_seq ?_
  refine CE_reg ?_
  refine EL_p (Pu_mv rfl) rfl ?_
  refine EL_p (Pu_len rfl sl23 rfl) rfl ?_
  refine EL_p (Pu_mv rfl) rfl ?_
  refine EL_p (Pu_len rfl sl25 rfl) rfl ?_
  refine EL_p (Pu_neq rfl rfl) rfl ?_
  refine EL_nil ?_
  refine CE_cN rfl (fun c20 => ?_) (fun c20 => ?_)
  · refine CE_seq ?_
    refine CE_reg ?_
    refine EL_p (Pu_as rfl) rfl ?_
    refine EL_nil ?_
    refine CE_ret ?_
    first | exact ⟨_, rfl, false, rfl, by simp, H⟩ | exact ⟨_, rfl, false, rfl, by simp, H2⟩ | exact ⟨_, rfl, false, rfl, by simp, H3⟩ | exact ⟨_, rfl, true, rfl, fun _ => ⟨rfl, fun q hq' => hr q (by omega), fun q hq' => ho q (by omega), fun q hq' => hab q (by omega), fun q hq' => haf q (by omega)⟩, H3⟩
  · refine CE_skip ?_
    refine CE_seq ?_
    refine CE_seq ?_
    refine CE_reg ?_
    refine EL_p (Pu_as rfl) rfl ?_
    refine EL_nil ?_
    refine CE_block ?_
    have e6 : l6 = nt := by omega
    subst e6
    refine CE_loop (fun (t : Nat) w' => t ≤ l6 ∧ HP W0 w' L ∧ (∀ q, q < t → 0 ≤ E q ∧ E q ≤ n) ∧ (∀ q, q < t → E q < n → T (E q).toNat = q ∧ (A (E q).toNat = 99 ∨ A (E q).toNat = 97)) ∧ (∀ q, q < t → (B q = true ↔ E q < n ∧ A (E q).toNat = 97)))
      (fun t => [(0, .slice a0 n c0), (1, .slice a2 n c2), (2, .slice a5 l6 c5), (3, .slice a6 l6 c6), (9, .int .i64 n), (10, .int .i64 t)]) (fun t => l6 - t) 0
      ⟨by omega, H, by omega, by omega, by omega⟩ ⟨rfl, rfl, rfl, rfl, rfl, rfl, trivial⟩ ?_
    rintro t w2 ⟨ht, H2, hr, ho, hab⟩
    refine CE_seq ?_
    refine CE_seq ?_
    refine CE_reg ?_
    refine EL_p (Pu_mv rfl) rfl ?_
    refine EL_p (Pu_mv rfl) rfl ?_
    refine EL_p (Pu_len rfl sl23 rfl) rfl ?_
    refine EL_p (Pu_lss rfl rfl) rfl ?_
    refine EL_nil ?_
    refine CE_cP rfl (fun c24 => ?_) (fun c24 => ?_)
    · have hlt : t < l6 := by omega
      obtain ⟨b5, o5, rfl, hb5, hc5⟩ := s5.at hlt
      obtain ⟨b6, o6, rfl, hb6, hc6⟩ := s6.at hlt
      refine CE_skip ?_
      refine CE_seq ?_
      refine CE_block ?_
      refine CE_seq ?_
      refine CE_reg ?_
      refine EL_p (Pu_mv rfl) rfl ?_
      refine EL_p (Pu_mv rfl) rfl ?_
      first | (refine EL_p (Pu_ixo rfl rfl sl23 rfl hlt) rfl ?_) | (refine EL_p (Pu_ixo (j := (E t).toNat) rfl rfl sl23 (by omega) hlt2) rfl ?_)
      refine EL_ld rfl fl3 ((H2.old hb6).trans (hc6 t hlt)) rfl ?_
      refine EL_p (Pu_as rfl) rfl ?_
      refine EL_nil ?_
      refine CE_seq ?_
      refine CE_seq ?_
      refine CE_reg ?_
      refine EL_p (Pu_mv rfl) rfl ?_
      refine EL_p (Pu_lss rfl rfl) rfl ?_
      refine EL_p (Pu_mv rfl) rfl ?_
      refine EL_gP rfl rfl (fun g33 => ?_) (fun g33 => ?_)
      · refine EL_no rfl rfl rfl rfl ?_
        refine EL_no rfl rfl rfl rfl ?_
        refine EL_no rfl rfl rfl rfl ?_
        refine EL_p (Pu_pt rfl rfl) rfl ?_
        refine EL_nil ?_
        refine CE_cond_t rfl ?_
        refine CE_seq ?_
        refine CE_reg ?_
        refine EL_p (Pu_as rfl) rfl ?_
        refine EL_nil ?_
        refine CE_ret ?_
        first | exact ⟨_, rfl, false, rfl, by simp, H⟩ | exact ⟨_, rfl, false, rfl, by simp, H2⟩ | exact ⟨_, rfl, false, rfl, by simp, H3⟩ | exact ⟨_, rfl, true, rfl, fun _ => ⟨rfl, fun q hq' => hr q (by omega), fun q hq' => ho q (by omega), fun q hq' => hab q (by omega), fun q hq' => haf q (by omega)⟩, H3⟩
      · refine EL_yes rfl rfl ?_
        refine EL_p (Pu_mv rfl) rfl ?_
        refine EL_yes rfl rfl ?_
        refine EL_p (Pu_mv rfl) rfl ?_
        refine EL_yes rfl rfl ?_
        refine EL_p (Pu_gtr rfl rfl) rfl ?_
        refine EL_p (Pu_pf rfl rfl) rfl ?_
        refine EL_nil ?_
        refine CE_cP rfl (fun c37 => ?_) (fun c37 => ?_)
        · refine CE_seq ?_
          refine CE_reg ?_
          refine EL_p (Pu_as rfl) rfl ?_
          refine EL_nil ?_
          refine CE_ret ?_
          first | exact ⟨_, rfl, false, rfl, by simp, H⟩ | exact ⟨_, rfl, false, rfl, by simp, H2⟩ | exact ⟨_, rfl, false, rfl, by simp, H3⟩ | exact ⟨_, rfl, true, rfl, fun _ => ⟨rfl, fun q hq' => hr q (by omega), fun q hq' => ho q (by omega), fun q hq' => hab q (by omega), fun q hq' => haf q (by omega)⟩, H3⟩
        · refine CE_skip ?_
          refine CE_seq ?_
          refine CE_seq ?_
          refine CE_reg ?_
          refine EL_p (Pu_mv rfl) rfl ?_
          refine EL_p (Pu_mv rfl) rfl ?_
          refine EL_p (Pu_lss rfl rfl) rfl ?_
          refine EL_nil ?_
          refine CE_cP rfl (fun c40 => ?_) (fun c40 => ?_)
          · have hlt2 : (E t).toNat < n := by omega
            have hTe := hT (E t).toNat hlt2
            obtain ⟨b0, o0, rfl, hb0, hc0⟩ := s0.at hlt2
            obtain ⟨b2, o2, rfl, hb2, hc2⟩ := s2.at hlt2
            refine CE_seq ?_
            refine CE_seq ?_
            refine CE_reg ?_
            refine EL_p (Pu_mv rfl) rfl ?_
            refine EL_p (Pu_mv rfl) rfl ?_
            refine EL_p (Pu_ixo (j := (E t).toNat) rfl rfl sl24 (by omega) hlt2) rfl ?_
            refine EL_ld rfl fl21 ((H2.old hb2).trans (hc2 _ hlt2)) rfl ?_
            refine EL_p (Pu_cnv rfl in21 in3 (w64 (by omega))) rfl ?_
            refine EL_p (Pu_mv rfl) rfl ?_
            refine EL_p (Pu_neq rfl rfl) rfl ?_
            refine EL_nil ?_
            refine CE_cN rfl (fun c47 => ?_) (fun c47 => ?_)
            · refine CE_seq ?_
              refine CE_reg ?_
              refine EL_p (Pu_as rfl) rfl ?_
              refine EL_nil ?_
              refine CE_ret ?_
              first | exact ⟨_, rfl, false, rfl, by simp, H⟩ | exact ⟨_, rfl, false, rfl, by simp, H2⟩ | exact ⟨_, rfl, false, rfl, by simp, H3⟩ | exact ⟨_, rfl, true, rfl, fun _ => ⟨rfl, fun q hq' => hr q (by omega), fun q hq' => ho q (by omega), fun q hq' => hab q (by omega), fun q hq' => haf q (by omega)⟩, H3⟩
            · refine CE_skip ?_
              refine CE_seq ?_
              refine CE_reg ?_
              refine EL_p (Pu_mv rfl) rfl ?_
              refine EL_p (Pu_mv rfl) rfl ?_
              refine EL_p (Pu_ixo (j := (E t).toNat) rfl rfl sl22 (by omega) hlt2) rfl ?_
              refine EL_ld rfl fl5 ((H2.old hb0).trans (hc0 _ hlt2)) rfl ?_
              refine EL_p (Pu_neq rfl rfl) rfl ?_
              refine EL_p (Pu_mv rfl) rfl ?_
              refine EL_gN rfl rfl (fun g53 => ?_) (fun g53 => ?_)
              · refine EL_yes rfl rfl ?_
                refine EL_p (Pu_mv rfl) rfl ?_
                refine EL_yes rfl rfl ?_
                refine EL_p (Pu_mv rfl) rfl ?_
                refine EL_yes rfl rfl ?_
                refine EL_p (Pu_ixo (j := (E t).toNat) rfl rfl sl22 (by omega) hlt2) rfl ?_
                refine EL_yes rfl rfl ?_
                refine EL_ld rfl fl5 ((H2.old hb0).trans (hc0 _ hlt2)) rfl ?_
                refine EL_yes rfl rfl ?_
                refine EL_p (Pu_neq rfl rfl) rfl ?_
                refine EL_p (Pu_pt rfl rfl) rfl ?_
                refine EL_nil ?_
                refine CE_cN rfl (fun c59 => ?_) (fun c59 => ?_)
                · refine CE_seq ?_
                  refine CE_reg ?_
                  refine EL_p (Pu_as rfl) rfl ?_
                  refine EL_nil ?_
                  refine CE_ret ?_
                  first | exact ⟨_, rfl, false, rfl, by simp, H⟩ | exact ⟨_, rfl, false, rfl, by simp, H2⟩ | exact ⟨_, rfl, false, rfl, by simp, H3⟩ | exact ⟨_, rfl, true, rfl, fun _ => ⟨rfl, fun q hq' => hr q (by omega), fun q hq' => ho q (by omega), fun q hq' => hab q (by omega), fun q hq' => haf q (by omega)⟩, H3⟩
                · refine CE_skip ?_
                  refine CE_seq ?_
                  refine CE_drawH H2 (fun w => HP W0 w L) [(0, 0), (1, 0), (2, 0), (3, 0), (4, 0), (5, 0), (6, 0), (7, 0), (8, 0), (9, 0), (10, 0), (11, 0), (12, 0), (13, 0), (14, 0)] mixed rfl (by kernel_rfl) (fun w3 H3 => ?_)
                  refine AO_p rfl H3 (Pu.toIf (Pu_mv rfl)) rfl ?_
                  refine AO_p rfl H3 (Pu.toIf (Pu_mv rfl)) rfl ?_
                  first | (refine AO_p rfl H3 (Pu.toIf (Pu_ixo (j := t) rfl rfl sl25 rfl hlt)) rfl ?_) | (refine AO_p rfl H3 (Pu.toIf (Pu_ixo (j := (E t).toNat) rfl rfl sl25 (by omega) hlt2)) rfl ?_)
                  first | (refine AO_p rfl H3 (Ld rfl fl4 (fun w h => (h.old hb5).trans (hc5 t hlt))) rfl ?_) | (refine AO_p rfl H3 (Ld rfl fl4 (fun w h => (h.old hb0).trans (hc0 _ hlt2))) rfl ?_)
                  refine AO_p rfl H3 (Pu.toIf (Pu_mv rfl)) rfl ?_
                  refine AO_p rfl H3 (Pu.toIf (Pu_mv rfl)) rfl ?_
                  refine AO_p rfl H3 (Pu.toIf (Pu_lss rfl rfl)) rfl ?_
                  refine AO_p rfl H3 (Pu.toIf (Pu_mv rfl)) rfl ?_
                  refine AO_gP rfl rfl rfl (fun g67 => ?_) (fun g67 => ?_)
                  · refine AO_yes rfl rfl rfl H3 (Pu.toIf (Pu_mv rfl)) rfl ?_
                    refine AO_yes rfl rfl rfl H3 (Pu.toIf (Pu_mv rfl)) rfl ?_
                    first | (refine AO_yes rfl rfl rfl H3 (Pu.toIf (Pu_ixo (j := t) rfl rfl sl25 rfl hlt)) rfl ?_) | (refine AO_yes rfl rfl rfl H3 (Pu.toIf (Pu_ixo (j := (E t).toNat) rfl rfl sl22 (by omega) hlt2)) rfl ?_)
                    first | (refine AO_yes rfl rfl rfl H3 (Ld rfl fl5 (fun w h => (h.old hb5).trans (hc5 t hlt))) rfl ?_) | (refine AO_yes rfl rfl rfl H3 (Ld rfl fl5 (fun w h => (h.old hb0).trans (hc0 _ hlt2))) rfl ?_)
                    refine AO_yes rfl rfl rfl H3 (Pu.toIf (Pu_eql rfl rfl)) rfl ?_
                    refine AO_p rfl H3 (Pu.toIf (Pu_pt rfl rfl)) rfl ?_
                    refine AO_p rfl H3 (Pu.toIf (Pu_neqB rfl rfl Try.underlying4)) rfl ?_
                    refine AO_nil ?_
                    refine CE_cond rfl (fun c74 => ?_) (fun c74 => ?_)
                    · refine CE_seq ?_
                      refine CE_reg ?_
                      refine EL_p (Pu_as rfl) rfl ?_
                      refine EL_nil ?_
                      refine CE_ret ?_
                      first | exact ⟨_, rfl, false, rfl, by simp, H⟩ | exact ⟨_, rfl, false, rfl, by simp, H2⟩ | exact ⟨_, rfl, false, rfl, by simp, H3⟩ | exact ⟨_, rfl, true, rfl, fun _ => ⟨rfl, fun q hq' => hr q (by omega), fun q hq' => ho q (by omega), fun q hq' => hab q (by omega), fun q hq' => haf q (by omega)⟩, H3⟩
                    · refine CE_skip ?_
                      refine CE_reg ?_
                      refine EL_p (Pu_mv rfl) rfl ?_
                      refine EL_p (Pu_add rfl rfl (w64 (by omega))) rfl ?_
                      refine EL_p (Pu_as rfl) rfl ?_
                      refine EL_nil ?_
                      have hB : B t = decide (E t < n ∧ A (E t).toNat = 97) := by
                        have c74' := c74
                        simp only [bne_eq_false_iff_eq] at c74'
                        rw [c74']
                        rw [Bool.eq_iff_iff]
                        simp only [decide_eq_true_eq, Bool.false_eq_true]
                        first | omega | exact ⟨fun h => h.elim, fun h => by omega⟩
                      refine ⟨t + 1, by omega, ⟨rfl, rfl, rfl, rfl, rfl, rfl, trivial⟩, by omega, H3, fun q hq' => ?_, fun q hq' hq2 => ?_, fun q hq' => ?_⟩
                      all_goals
                        by_cases hqp : q = t
                        · subst hqp
                          first | omega | (rw [hB]; simp)
                        · first | exact hr q (by omega) | exact ho q (by omega) hq2 | exact hab q (by omega)
                  · exfalso; omega --stop
              · refine EL_no rfl rfl rfl rfl ?_
                refine EL_no rfl rfl rfl rfl ?_
                refine EL_no rfl rfl rfl rfl ?_
                refine EL_no rfl rfl rfl rfl ?_
                refine EL_no rfl rfl rfl rfl ?_
                refine EL_p (Pu_pf rfl rfl) rfl ?_
                refine EL_nil ?_
                refine CE_cond_f rfl ?_
                refine CE_skip ?_
                refine CE_seq ?_
                refine CE_drawH H2 (fun w => HP W0 w L) [(0, 0), (1, 0), (2, 0), (3, 0), (4, 0), (5, 0), (6, 0), (7, 0), (8, 0), (9, 0), (10, 0), (11, 0), (12, 0), (13, 0), (14, 0)] mixed rfl (by kernel_rfl) (fun w3 H3 => ?_)
                refine AO_p rfl H3 (Pu.toIf (Pu_mv rfl)) rfl ?_
                refine AO_p rfl H3 (Pu.toIf (Pu_mv rfl)) rfl ?_
                first | (refine AO_p rfl H3 (Pu.toIf (Pu_ixo (j := t) rfl rfl sl25 rfl hlt)) rfl ?_) | (refine AO_p rfl H3 (Pu.toIf (Pu_ixo (j := (E t).toNat) rfl rfl sl25 (by omega) hlt2)) rfl ?_)
                first | (refine AO_p rfl H3 (Ld rfl fl4 (fun w h => (h.old hb5).trans (hc5 t hlt))) rfl ?_) | (refine AO_p rfl H3 (Ld rfl fl4 (fun w h => (h.old hb0).trans (hc0 _ hlt2))) rfl ?_)
                refine AO_p rfl H3 (Pu.toIf (Pu_mv rfl)) rfl ?_
                refine AO_p rfl H3 (Pu.toIf (Pu_mv rfl)) rfl ?_
                refine AO_p rfl H3 (Pu.toIf (Pu_lss rfl rfl)) rfl ?_
                refine AO_p rfl H3 (Pu.toIf (Pu_mv rfl)) rfl ?_
                refine AO_gP rfl rfl rfl (fun g67 => ?_) (fun g67 => ?_)
                · refine AO_yes rfl rfl rfl H3 (Pu.toIf (Pu_mv rfl)) rfl ?_
                  refine AO_yes rfl rfl rfl H3 (Pu.toIf (Pu_mv rfl)) rfl ?_
                  first | (refine AO_yes rfl rfl rfl H3 (Pu.toIf (Pu_ixo (j := t) rfl rfl sl25 rfl hlt)) rfl ?_) | (refine AO_yes rfl rfl rfl H3 (Pu.toIf (Pu_ixo (j := (E t).toNat) rfl rfl sl22 (by omega) hlt2)) rfl ?_)
                  first | (refine AO_yes rfl rfl rfl H3 (Ld rfl fl5 (fun w h => (h.old hb5).trans (hc5 t hlt))) rfl ?_) | (refine AO_yes rfl rfl rfl H3 (Ld rfl fl5 (fun w h => (h.old hb0).trans (hc0 _ hlt2))) rfl ?_)
                  refine AO_yes rfl rfl rfl H3 (Pu.toIf (Pu_eql rfl rfl)) rfl ?_
                  refine AO_p rfl H3 (Pu.toIf (Pu_pt rfl rfl)) rfl ?_
                  refine AO_p rfl H3 (Pu.toIf (Pu_neqB rfl rfl Try.underlying4)) rfl ?_
                  refine AO_nil ?_
                  refine CE_cond rfl (fun c74 => ?_) (fun c74 => ?_)
                  · refine CE_seq ?_
                    refine CE_reg ?_
                    refine EL_p (Pu_as rfl) rfl ?_
                    refine EL_nil ?_
                    refine CE_ret ?_
                    first | exact ⟨_, rfl, false, rfl, by simp, H⟩ | exact ⟨_, rfl, false, rfl, by simp, H2⟩ | exact ⟨_, rfl, false, rfl, by simp, H3⟩ | exact ⟨_, rfl, true, rfl, fun _ => ⟨rfl, fun q hq' => hr q (by omega), fun q hq' => ho q (by omega), fun q hq' => hab q (by omega), fun q hq' => haf q (by omega)⟩, H3⟩
                  · refine CE_skip ?_
                    refine CE_reg ?_
                    refine EL_p (Pu_mv rfl) rfl ?_
                    refine EL_p (Pu_add rfl rfl (w64 (by omega))) rfl ?_
                    refine EL_p (Pu_as rfl) rfl ?_
                    refine EL_nil ?_
                    have hB : B t = decide (E t < n ∧ A (E t).toNat = 97) := by
                      have c74' := c74
                      simp only [bne_eq_false_iff_eq] at c74'
                      rw [c74']
                      rw [Bool.eq_iff_iff]
                      simp only [decide_eq_true_eq, Bool.false_eq_true]
                      first | omega | exact ⟨fun h => h.elim, fun h => by omega⟩
                    refine ⟨t + 1, by omega, ⟨rfl, rfl, rfl, rfl, rfl, rfl, trivial⟩, by omega, H3, fun q hq' => ?_, fun q hq' hq2 => ?_, fun q hq' => ?_⟩
                    all_goals
                      by_cases hqp : q = t
                      · subst hqp
                        first | omega | (rw [hB]; simp)
                      · first | exact hr q (by omega) | exact ho q (by omega) hq2 | exact hab q (by omega)
                · exfalso; omega --stop
          · refine CE_skip ?_
            refine CE_seq ?_
            refine CE_drawH H2 (fun w => HP W0 w L) [(0, 0), (1, 0), (2, 0), (3, 0), (4, 0), (5, 0), (6, 0), (7, 0), (8, 0), (9, 0), (10, 0), (11, 0), (12, 0), (13, 0), (14, 0)] mixed rfl (by kernel_rfl) (fun w3 H3 => ?_)
            refine AO_p rfl H3 (Pu.toIf (Pu_mv rfl)) rfl ?_
            refine AO_p rfl H3 (Pu.toIf (Pu_mv rfl)) rfl ?_
            first | (refine AO_p rfl H3 (Pu.toIf (Pu_ixo (j := t) rfl rfl sl25 rfl hlt)) rfl ?_) | (refine AO_p rfl H3 (Pu.toIf (Pu_ixo (j := (E t).toNat) rfl rfl sl25 (by omega) hlt2)) rfl ?_)
            first | (refine AO_p rfl H3 (Ld rfl fl4 (fun w h => (h.old hb5).trans (hc5 t hlt))) rfl ?_) | (refine AO_p rfl H3 (Ld rfl fl4 (fun w h => (h.old hb0).trans (hc0 _ hlt2))) rfl ?_)
            refine AO_p rfl H3 (Pu.toIf (Pu_mv rfl)) rfl ?_
            refine AO_p rfl H3 (Pu.toIf (Pu_mv rfl)) rfl ?_
            refine AO_p rfl H3 (Pu.toIf (Pu_lss rfl rfl)) rfl ?_
            refine AO_p rfl H3 (Pu.toIf (Pu_mv rfl)) rfl ?_
            refine AO_gP rfl rfl rfl (fun g67 => ?_) (fun g67 => ?_)
            · exfalso; omega --stop
            · refine AO_no rfl rfl rfl rfl H3 rfl ?_
              refine AO_no rfl rfl rfl rfl H3 rfl ?_
              refine AO_no rfl rfl rfl rfl H3 rfl ?_
              refine AO_no rfl rfl rfl rfl H3 rfl ?_
              refine AO_no rfl rfl rfl rfl H3 rfl ?_
              refine AO_p rfl H3 (Pu.toIf (Pu_pf rfl rfl)) rfl ?_
              refine AO_p rfl H3 (Pu.toIf (Pu_neqB rfl rfl Try.underlying4)) rfl ?_
              refine AO_nil ?_
              refine CE_cond rfl (fun c74 => ?_) (fun c74 => ?_)
              · refine CE_seq ?_
                refine CE_reg ?_
                refine EL_p (Pu_as rfl) rfl ?_
                refine EL_nil ?_
                refine CE_ret ?_
                first | exact ⟨_, rfl, false, rfl, by simp, H⟩ | exact ⟨_, rfl, false, rfl, by simp, H2⟩ | exact ⟨_, rfl, false, rfl, by simp, H3⟩ | exact ⟨_, rfl, true, rfl, fun _ => ⟨rfl, fun q hq' => hr q (by omega), fun q hq' => ho q (by omega), fun q hq' => hab q (by omega), fun q hq' => haf q (by omega)⟩, H3⟩
              · refine CE_skip ?_
                refine CE_reg ?_
                refine EL_p (Pu_mv rfl) rfl ?_
                refine EL_p (Pu_add rfl rfl (w64 (by omega))) rfl ?_
                refine EL_p (Pu_as rfl) rfl ?_
                refine EL_nil ?_
                have hB : B t = decide (E t < n ∧ A (E t).toNat = 97) := by
                  have c74' := c74
                  simp only [bne_eq_false_iff_eq] at c74'
                  rw [c74']
                  rw [Bool.eq_iff_iff]
                  simp only [decide_eq_true_eq, Bool.false_eq_true]
                  first | omega | exact ⟨fun h => h.elim, fun h => by omega⟩
                refine ⟨t + 1, by omega, ⟨rfl, rfl, rfl, rfl, rfl, rfl, trivial⟩, by omega, H3, fun q hq' => ?_, fun q hq' hq2 => ?_, fun q hq' => ?_⟩
                all_goals
                  by_cases hqp : q = t
                  · subst hqp
                    first | omega | (rw [hB]; simp)
                  · first | exact hr q (by omega) | exact ho q (by omega) hq2 | exact hab q (by omega)
    · refine CE_exit ?_
      refine CE_seq ?_
      refine CE_seq ?_
      refine CE_reg ?_
      refine EL_p (Pu_as rfl) rfl ?_
      refine EL_nil ?_
      refine CE_block ?_
      refine CE_loop (fun (p : Nat) w' => p ≤ n ∧ HP W0 w' L ∧ (∀ q : Nat, q < p → (q : Int) ≤ E (T q).toNat ∧ ((A q = 99 ∨ A q = 97) → E (T q).toNat = q)))
        (fun p => [(0, .slice a0 n c0), (1, .slice a2 n c2), (2, .slice a5 l6 c5), (3, .slice a6 l6 c6), (9, .int .i64 n), (12, .int .i64 p)]) (fun p => n - p) 0
        ⟨by omega, H2, by omega⟩ ⟨rfl, rfl, rfl, rfl, rfl, rfl, trivial⟩ ?_
      rintro p w3 ⟨hp, H3, haf⟩
      refine CE_seq ?_
      refine CE_seq ?_
      refine CE_reg ?_
      refine EL_p (Pu_mv rfl) rfl ?_
      refine EL_p (Pu_mv rfl) rfl ?_
      refine EL_p (Pu_lss rfl rfl) rfl ?_
      refine EL_nil ?_
      refine CE_cP rfl (fun c77 => ?_) (fun c77 => ?_)
      · have hlt : p < n := by omega
        have hTp := hTr p hlt
        have hlt6 : (T p).toNat < l6 := by omega
        obtain ⟨b0, o0, rfl, hb0, hc0⟩ := s0.at hlt
        obtain ⟨b2, o2, rfl, hb2, hc2⟩ := s2.at hlt
        obtain ⟨b6, o6, rfl, hb6, hc6⟩ := s6.at hlt6
        refine CE_skip ?_
        refine CE_seq ?_
        refine CE_block ?_
        refine CE_seq ?_
        refine CE_reg ?_
        refine EL_p (Pu_mv rfl) rfl ?_
        refine EL_p (Pu_mv rfl) rfl ?_
        refine EL_p (Pu_mv rfl) rfl ?_
        first | (refine EL_p (Pu_ixo rfl rfl sl24 rfl hlt) rfl ?_) | (refine EL_p (Pu_ixo (j := (T p).toNat) rfl rfl sl23 (by omega) hlt6) rfl ?_) | (refine EL_p (Pu_ixo (j := (E t).toNat) rfl rfl sl24 (by omega) hlt2) rfl ?_)
        first | (refine EL_ld rfl fl21 ((H3.old hb2).trans (hc2 _ hlt)) rfl ?_) | (refine EL_ld rfl fl21 ((H3.old hb6).trans (hc6 _ hlt6)) rfl ?_)
        first | (refine EL_p (Pu_ixo rfl rfl sl24 rfl hlt) rfl ?_) | (refine EL_p (Pu_ixo (j := (T p).toNat) rfl rfl sl23 (by omega) hlt6) rfl ?_) | (refine EL_p (Pu_ixo (j := (E t).toNat) rfl rfl sl23 (by omega) hlt2) rfl ?_)
        first | (refine EL_ld rfl fl3 ((H3.old hb2).trans (hc2 _ hlt)) rfl ?_) | (refine EL_ld rfl fl3 ((H3.old hb6).trans (hc6 _ hlt6)) rfl ?_)
        refine EL_p (Pu_as rfl) rfl ?_
        refine EL_nil ?_
        refine CE_seq ?_
        refine CE_seq ?_
        refine CE_reg ?_
        refine EL_p (Pu_mv rfl) rfl ?_
        refine EL_p (Pu_mv rfl) rfl ?_
        refine EL_p (Pu_gtr rfl rfl) rfl ?_
        refine EL_nil ?_
        refine CE_cP rfl (fun c89 => ?_) (fun c89 => ?_)
        · refine CE_seq ?_
          refine CE_reg ?_
          refine EL_p (Pu_as rfl) rfl ?_
          refine EL_nil ?_
          refine CE_ret ?_
          first | exact ⟨_, rfl, false, rfl, by simp, H⟩ | exact ⟨_, rfl, false, rfl, by simp, H2⟩ | exact ⟨_, rfl, false, rfl, by simp, H3⟩ | exact ⟨_, rfl, true, rfl, fun _ => ⟨rfl, fun q hq' => hr q (by omega), fun q hq' => ho q (by omega), fun q hq' => hab q (by omega), fun q hq' => haf q (by omega)⟩, H3⟩
        · refine CE_skip ?_
          refine CE_seq ?_
          refine CE_reg ?_
          refine EL_p (Pu_mv rfl) rfl ?_
          refine EL_p (Pu_mv rfl) rfl ?_
          first | (refine EL_p (Pu_ixo rfl rfl sl22 rfl hlt) rfl ?_) | (refine EL_p (Pu_ixo (j := (E t).toNat) rfl rfl sl22 (by omega) hlt2) rfl ?_)
          refine EL_ld rfl fl5 ((H3.old hb0).trans (hc0 _ hlt)) rfl ?_
          refine EL_p (Pu_eql rfl rfl) rfl ?_
          refine EL_p (Pu_mv rfl) rfl ?_
          refine EL_gP rfl rfl (fun g95 => ?_) (fun g95 => ?_)
          · refine EL_no rfl rfl rfl rfl ?_
            refine EL_no rfl rfl rfl rfl ?_
            refine EL_no rfl rfl rfl rfl ?_
            refine EL_no rfl rfl rfl rfl ?_
            refine EL_no rfl rfl rfl rfl ?_
            refine EL_p (Pu_pt rfl rfl) rfl ?_
            refine EL_p (Pu_mv rfl) rfl ?_
            refine EL_yes rfl rfl ?_
            refine EL_p (Pu_mv rfl) rfl ?_
            refine EL_yes rfl rfl ?_
            refine EL_p (Pu_mv rfl) rfl ?_
            refine EL_yes rfl rfl ?_
            refine EL_p (Pu_neq rfl rfl) rfl ?_
            refine EL_p (Pu_pt rfl rfl) rfl ?_
            refine EL_nil ?_
            refine CE_cN rfl (fun c106 => ?_) (fun c106 => ?_)
            · refine CE_seq ?_
              refine CE_reg ?_
              refine EL_p (Pu_as rfl) rfl ?_
              refine EL_nil ?_
              refine CE_ret ?_
              first | exact ⟨_, rfl, false, rfl, by simp, H⟩ | exact ⟨_, rfl, false, rfl, by simp, H2⟩ | exact ⟨_, rfl, false, rfl, by simp, H3⟩ | exact ⟨_, rfl, true, rfl, fun _ => ⟨rfl, fun q hq' => hr q (by omega), fun q hq' => ho q (by omega), fun q hq' => hab q (by omega), fun q hq' => haf q (by omega)⟩, H3⟩
            · refine CE_skip ?_
              refine CE_reg ?_
              refine EL_p (Pu_mv rfl) rfl ?_
              refine EL_p (Pu_add rfl rfl (w64 (by omega))) rfl ?_
              refine EL_p (Pu_as rfl) rfl ?_
              refine EL_nil ?_
              refine ⟨p + 1, by omega, ⟨rfl, rfl, rfl, rfl, rfl, rfl, trivial⟩, by omega, H3, fun q hq' => ?_⟩
              by_cases hqp : q = p
              · subst hqp
                omega
              · exact haf q (by omega)
          · refine EL_yes rfl rfl ?_
            refine EL_p (Pu_mv rfl) rfl ?_
            refine EL_yes rfl rfl ?_
            refine EL_p (Pu_mv rfl) rfl ?_
            refine EL_yes rfl rfl ?_
            first | (refine EL_p (Pu_ixo rfl rfl sl22 rfl hlt) rfl ?_) | (refine EL_p (Pu_ixo (j := (E t).toNat) rfl rfl sl22 (by omega) hlt2) rfl ?_)
            refine EL_yes rfl rfl ?_
            refine EL_ld rfl fl5 ((H3.old hb0).trans (hc0 _ hlt)) rfl ?_
            refine EL_yes rfl rfl ?_
            refine EL_p (Pu_eql rfl rfl) rfl ?_
            refine EL_p (Pu_pf rfl rfl) rfl ?_
            refine EL_p (Pu_mv rfl) rfl ?_
            refine EL_gP rfl rfl (fun g102 => ?_) (fun g102 => ?_)
            · refine EL_yes rfl rfl ?_
              refine EL_p (Pu_mv rfl) rfl ?_
              refine EL_yes rfl rfl ?_
              refine EL_p (Pu_mv rfl) rfl ?_
              refine EL_yes rfl rfl ?_
              refine EL_p (Pu_neq rfl rfl) rfl ?_
              refine EL_p (Pu_pt rfl rfl) rfl ?_
              refine EL_nil ?_
              refine CE_cN rfl (fun c106 => ?_) (fun c106 => ?_)
              · refine CE_seq ?_
                refine CE_reg ?_
                refine EL_p (Pu_as rfl) rfl ?_
                refine EL_nil ?_
                refine CE_ret ?_
                first | exact ⟨_, rfl, false, rfl, by simp, H⟩ | exact ⟨_, rfl, false, rfl, by simp, H2⟩ | exact ⟨_, rfl, false, rfl, by simp, H3⟩ | exact ⟨_, rfl, true, rfl, fun _ => ⟨rfl, fun q hq' => hr q (by omega), fun q hq' => ho q (by omega), fun q hq' => hab q (by omega), fun q hq' => haf q (by omega)⟩, H3⟩
              · refine CE_skip ?_
                refine CE_reg ?_
                refine EL_p (Pu_mv rfl) rfl ?_
                refine EL_p (Pu_add rfl rfl (w64 (by omega))) rfl ?_
                refine EL_p (Pu_as rfl) rfl ?_
                refine EL_nil ?_
                refine ⟨p + 1, by omega, ⟨rfl, rfl, rfl, rfl, rfl, rfl, trivial⟩, by omega, H3, fun q hq' => ?_⟩
                by_cases hqp : q = p
                · subst hqp
                  omega
                · exact haf q (by omega)
            · refine EL_no rfl rfl rfl rfl ?_
              refine EL_no rfl rfl rfl rfl ?_
              refine EL_no rfl rfl rfl rfl ?_
              refine EL_p (Pu_pf rfl rfl) rfl ?_
              refine EL_nil ?_
              refine CE_cond_f rfl ?_
              refine CE_skip ?_
              refine CE_reg ?_
              refine EL_p (Pu_mv rfl) rfl ?_
              refine EL_p (Pu_add rfl rfl (w64 (by omega))) rfl ?_
              refine EL_p (Pu_as rfl) rfl ?_
              refine EL_nil ?_
              refine ⟨p + 1, by omega, ⟨rfl, rfl, rfl, rfl, rfl, rfl, trivial⟩, by omega, H3, fun q hq' => ?_⟩
              by_cases hqp : q = p
              · subst hqp
                omega
              · exact haf q (by omega)
      · refine CE_exit ?_
        refine CE_seq ?_
        refine CE_reg ?_
        refine EL_p (Pu_as rfl) rfl ?_
        refine EL_nil ?_
        refine CE_ret ?_
        first | exact ⟨_, rfl, false, rfl, by simp, H⟩ | exact ⟨_, rfl, false, rfl, by simp, H2⟩ | exact ⟨_, rfl, false, rfl, by simp, H3⟩ | exact ⟨_, rfl, true, rfl, fun _ => ⟨rfl, fun q hq' => hr q (by omega), fun q hq' => ho q (by omega), fun q hq' => hab q (by omega), fun q hq' => haf q (by omega)⟩, H3⟩

theorem serial21 {W0 w : World} {L : List Chunk} {a2 a6 : Option Addr} {n nt c2 c6 : Nat} {T E : Nat → Int} (H : HP W0 w L)
    (s2 : Src W0 a2 n (fun i => .int .i32 (T i))) (s6 : Src W0 a6 nt (fun i => .int .i64 (E i))) (hTr : ∀ i, i < n → 0 ≤ T i ∧ T i < nt) (h0 : n ≤ 1048576) :
    Calls Try.prog 21 #[.slice a2 n c2, .slice a6 nt c6] w fun x w' => ∃ b, x = .returned (.bool b) ∧ (b = true → ∀ p q : Nat, p < n → q < p → T q ≠ T p → E (T q).toNat < p) ∧ HP W0 w' L := by
  refine calls_CE Try.func21 rfl Try.ntmps21 rfl rfl ?_
  refine CE_seq ?_
  refine CE_reg ?_
  refine EL_p (Pu_as rfl) rfl ?_
  refine EL_nil ?_
  refine CE_seq ?_
  refine CE_seq ?_
  refine CE_reg ?_
  refine EL_p (Pu_as rfl) rfl ?_
  refine EL_nil ?_
  refine CE_block ?_
  refine CE_loop (fun (p : Nat) w' => p ≤ n ∧ HP W0 w' L ∧ (∀ r q : Nat, r < p → q < r → T q ≠ T r → E (T q).toNat < r))
    (fun p => [(0, .slice a2 n c2), (1, .slice a6 nt c6), (5, .int .i64 p)]) (fun p => n - p) 0 ⟨by omega, H, by omega⟩ ⟨rfl, rfl, rfl, trivial⟩ ?_
  rintro p w2 ⟨hp, H2, hs⟩
  refine CE_seq ?_
  refine CE_seq ?_
  refine CE_reg ?_
  refine EL_p (Pu_mv rfl) rfl ?_
  refine EL_p (Pu_mv rfl) rfl ?_
  refine EL_p (Pu_len rfl sl24 rfl) rfl ?_
  refine EL_p (Pu_lss rfl rfl) rfl ?_
  refine EL_nil ?_
  refine CE_cP rfl (fun c10 => ?_) (fun c10 => ?_)
  · have hlt : p < n := by omega
    obtain ⟨b2, o2, rfl, hb2, hc2⟩ := s2.at hlt
    have hTp := hTr p hlt
    refine CE_skip ?_
    refine CE_seq ?_
    refine CE_block ?_
    refine CE_seq ?_
    refine CE_reg ?_
    refine EL_p (Pu_as rfl) rfl ?_
    refine EL_nil ?_
    refine CE_block ?_
    refine CE_loop (fun (q : Nat) w' => q ≤ p ∧ HP W0 w' L ∧ (∀ r : Nat, r < q → T r ≠ T p → E (T r).toNat < p))
      (fun q => [(0, .slice (some ⟨b2, o2, none⟩) n c2), (1, .slice a6 nt c6), (5, .int .i64 p), (6, .int .i64 q)]) (fun q => p - q) 0 ⟨by omega, H2, by omega⟩ ⟨rfl, rfl, rfl, rfl, trivial⟩ ?_
    rintro q w3 ⟨hqp, H3, hs3⟩
    refine CE_seq ?_
    refine CE_seq ?_
    refine CE_reg ?_
    refine EL_p (Pu_mv rfl) rfl ?_
    refine EL_p (Pu_mv rfl) rfl ?_
    refine EL_p (Pu_lss rfl rfl) rfl ?_
    refine EL_nil ?_
    refine CE_cP rfl (fun c15 => ?_) (fun c15 => ?_)
    · have hltq : q < n := by omega
      have hTq := hTr q hltq
      have hlt6 : (T q).toNat < nt := by omega
      obtain ⟨b6, o6, rfl, hb6, hc6⟩ := s6.at hlt6
      refine CE_skip ?_
      refine CE_seq ?_
      refine CE_block ?_
      refine CE_seq ?_
      refine CE_drawH H3 (fun w => HP W0 w L) [(0, 0), (1, 0), (2, 0), (3, 0), (4, 0), (5, 0), (6, 0), (7, 0), (8, 0), (9, 0), (10, 0), (11, 0), (12, 0), (13, 0), (14, 0), (15, 0), (16, 0), (17, 0), (18, 0), (19, 0), (20, 0)] mixed rfl (by kernel_rfl) (fun w4 H4 => ?_)
      refine AO_p rfl H4 (Pu.toIf (Pu_mv rfl)) rfl ?_
      refine AO_p rfl H4 (Pu.toIf (Pu_mv rfl)) rfl ?_
      first | (refine AO_p rfl H4 (Pu.toIf (Pu_ixo (j := q) rfl rfl sl24 rfl hltq)) rfl ?_) | (refine AO_p rfl H4 (Pu.toIf (Pu_ixo (j := p) rfl rfl sl24 rfl hlt)) rfl ?_) | (refine AO_p rfl H4 (Pu.toIf (Pu_ixo (j := (T q).toNat) rfl rfl sl23 (by omega) hlt6)) rfl ?_)
      first | (refine AO_p rfl H4 (Ld rfl fl21 (fun w h => (h.old hb2).trans (hc2 q hltq))) rfl ?_) | (refine AO_p rfl H4 (Ld rfl fl21 (fun w h => (h.old hb2).trans (hc2 p hlt))) rfl ?_) | (refine AO_p rfl H4 (Ld rfl fl21 (fun w h => (h.old hb6).trans (hc6 _ hlt6))) rfl ?_)
      refine AO_p rfl H4 (Pu.toIf (Pu_mv rfl)) rfl ?_
      refine AO_p rfl H4 (Pu.toIf (Pu_mv rfl)) rfl ?_
      first | (refine AO_p rfl H4 (Pu.toIf (Pu_ixo (j := q) rfl rfl sl24 rfl hltq)) rfl ?_) | (refine AO_p rfl H4 (Pu.toIf (Pu_ixo (j := p) rfl rfl sl24 rfl hlt)) rfl ?_) | (refine AO_p rfl H4 (Pu.toIf (Pu_ixo (j := (T q).toNat) rfl rfl sl23 (by omega) hlt6)) rfl ?_)
      first | (refine AO_p rfl H4 (Ld rfl fl21 (fun w h => (h.old hb2).trans (hc2 q hltq))) rfl ?_) | (refine AO_p rfl H4 (Ld rfl fl21 (fun w h => (h.old hb2).trans (hc2 p hlt))) rfl ?_) | (refine AO_p rfl H4 (Ld rfl fl21 (fun w h => (h.old hb6).trans (hc6 _ hlt6))) rfl ?_)
      refine AO_p rfl H4 (Pu.toIf (Pu_neq rfl rfl)) rfl ?_
      refine AO_p rfl H4 (Pu.toIf (Pu_mv rfl)) rfl ?_
      refine AO_gN rfl rfl rfl (fun g27 => ?_) (fun g27 => ?_)
      · refine AO_yes rfl rfl rfl H4 (Pu.toIf (Pu_mv rfl)) rfl ?_
        refine AO_yes rfl rfl rfl H4 (Pu.toIf (Pu_mv rfl)) rfl ?_
        refine AO_yes rfl rfl rfl H4 (Pu.toIf (Pu_mv rfl)) rfl ?_
        first | (refine AO_yes rfl rfl rfl H4 (Pu.toIf (Pu_ixo (j := q) rfl rfl sl24 rfl hltq)) rfl ?_) | (refine AO_yes rfl rfl rfl H4 (Pu.toIf (Pu_ixo (j := p) rfl rfl sl24 rfl hlt)) rfl ?_) | (refine AO_yes rfl rfl rfl H4 (Pu.toIf (Pu_ixo (j := (T q).toNat) rfl rfl sl23 (by omega) hlt6)) rfl ?_)
        first | (refine AO_yes rfl rfl rfl H4 (Ld rfl fl21 (fun w h => (h.old hb2).trans (hc2 q hltq))) rfl ?_) | (refine AO_yes rfl rfl rfl H4 (Ld rfl fl21 (fun w h => (h.old hb2).trans (hc2 p hlt))) rfl ?_) | (refine AO_yes rfl rfl rfl H4 (Ld rfl fl21 (fun w h => (h.old hb6).trans (hc6 _ hlt6))) rfl ?_)
        first | (refine AO_yes rfl rfl rfl H4 (Pu.toIf (Pu_ixo (j := q) rfl rfl sl24 rfl hltq)) rfl ?_) | (refine AO_yes rfl rfl rfl H4 (Pu.toIf (Pu_ixo (j := p) rfl rfl sl24 rfl hlt)) rfl ?_) | (refine AO_yes rfl rfl rfl H4 (Pu.toIf (Pu_ixo (j := (T q).toNat) rfl rfl sl23 (by omega) hlt6)) rfl ?_)
        first | (refine AO_yes rfl rfl rfl H4 (Ld rfl fl3 (fun w h => (h.old hb2).trans (hc2 q hltq))) rfl ?_) | (refine AO_yes rfl rfl rfl H4 (Ld rfl fl3 (fun w h => (h.old hb2).trans (hc2 p hlt))) rfl ?_) | (refine AO_yes rfl rfl rfl H4 (Ld rfl fl3 (fun w h => (h.old hb6).trans (hc6 _ hlt6))) rfl ?_)
        refine AO_yes rfl rfl rfl H4 (Pu.toIf (Pu_mv rfl)) rfl ?_
        refine AO_yes rfl rfl rfl H4 (Pu.toIf (Pu_lss rfl rfl)) rfl ?_
        refine AO_yes rfl rfl rfl H4 (Pu.toIf (Pu_not rfl)) rfl ?_
        refine AO_p rfl H4 (Pu.toIf (Pu_pt rfl rfl)) rfl ?_
        refine AO_nil ?_
        refine CE_cN rfl (fun c38 => ?_) (fun c38 => ?_)
        · refine CE_seq ?_
          refine CE_reg ?_
          refine EL_p (Pu_as rfl) rfl ?_
          refine EL_nil ?_
          refine CE_ret ?_
          first | exact ⟨_, rfl, false, rfl, by simp, H4⟩ | exact ⟨_, rfl, true, rfl, fun _ r q hr => hs r q (by omega), H2⟩
        · refine CE_skip ?_
          refine CE_reg ?_
          refine EL_p (Pu_mv rfl) rfl ?_
          refine EL_p (Pu_add rfl rfl (w64 (by omega))) rfl ?_
          refine EL_p (Pu_as rfl) rfl ?_
          refine EL_nil ?_
          refine ⟨q + 1, by omega, ⟨rfl, rfl, rfl, rfl, trivial⟩, by omega, H4, fun r hr hne => ?_⟩
          by_cases hrq : r = q
          · subst hrq
            omega
          · exact hs3 r (by omega) hne
      · refine AO_no rfl rfl rfl rfl H4 rfl ?_
        refine AO_no rfl rfl rfl rfl H4 rfl ?_
        refine AO_no rfl rfl rfl rfl H4 rfl ?_
        refine AO_no rfl rfl rfl rfl H4 rfl ?_
        refine AO_no rfl rfl rfl rfl H4 rfl ?_
        refine AO_no rfl rfl rfl rfl H4 rfl ?_
        refine AO_no rfl rfl rfl rfl H4 rfl ?_
        refine AO_no rfl rfl rfl rfl H4 rfl ?_
        refine AO_no rfl rfl rfl rfl H4 rfl ?_
        refine AO_no rfl rfl rfl rfl H4 rfl ?_
        refine AO_p rfl H4 (Pu.toIf (Pu_pf rfl rfl)) rfl ?_
        refine AO_nil ?_
        refine CE_cond_f rfl ?_
        refine CE_skip ?_
        refine CE_reg ?_
        refine EL_p (Pu_mv rfl) rfl ?_
        refine EL_p (Pu_add rfl rfl (w64 (by omega))) rfl ?_
        refine EL_p (Pu_as rfl) rfl ?_
        refine EL_nil ?_
        refine ⟨q + 1, by omega, ⟨rfl, rfl, rfl, rfl, trivial⟩, by omega, H4, fun r hr hne => ?_⟩
        by_cases hrq : r = q
        · subst hrq
          omega
        · exact hs3 r (by omega) hne
    · refine CE_exit ?_
      refine CE_reg ?_
      refine EL_p (Pu_mv rfl) rfl ?_
      refine EL_p (Pu_add rfl rfl (w64 (by omega))) rfl ?_
      refine EL_p (Pu_as rfl) rfl ?_
      refine EL_nil ?_
      refine ⟨p + 1, by omega, ⟨rfl, rfl, rfl, trivial⟩, by omega, H3, fun r q' hr hq' hne => ?_⟩
      by_cases hrp : r = p
      · subst hrp
        exact hs3 q' (by omega) hne
      · exact hs r q' (by omega) hq' hne
  · refine CE_exit ?_
    refine CE_seq ?_
    refine CE_reg ?_
    refine EL_p (Pu_as rfl) rfl ?_
    refine EL_nil ?_
    refine CE_ret ?_
    first | exact ⟨_, rfl, false, rfl, by simp, H4⟩ | exact ⟨_, rfl, true, rfl, fun _ r q hr => hs r q (by omega), H2⟩
end Go.Proofs.Qxb6602549a
