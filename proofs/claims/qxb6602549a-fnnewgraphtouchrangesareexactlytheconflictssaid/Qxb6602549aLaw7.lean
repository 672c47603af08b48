/-
  FnNewGraphTouchRangesAreExactlyTheConflicts, walked.
-/
import Derived.Test.Qxb6602549aAg
import Derived.Test.Qxb6602549aMarks
import Derived.Test.Qxb6602549aPaths
namespace Go.Proofs.Qxb6602549a
open Go Go.RowKit
set_option linter.unusedSimpArgs false
set_option linter.unusedVariables false

theorem xsF_len7 (h : HRec) (t : Nat) : ∀ p, (xsF h t p).length ≤ p
  | 0 => by simp [xsF]
  | p + 1 => by
    have := xsF_len7 h t p
    rw [xsF]; split <;> simp <;> omega


set_option maxHeartbeats 4000000 in
theorem law7 {w : World} {a0 a1 a2 a3 a5 a6 : Option Addr} {l0 l1 l2 l3 l5 l6 c0 c1 c2 c3 c5 c6 : Nat} {A X T I E : Nat → Int} {B : Nat → Bool} {m : Int} (ar : Args w a0 a1 a2 a3 a5 a6 l0 l1 l2 l3 l5 l6 A X T I E B) :
    Calls Try.prog 7 #[.slice a0 l0 c0, .slice a1 l1 c1, .slice a2 l2 c2, .slice a3 l3 c3, .int .i64 m, .slice a5 l5 c5, .slice a6 l6 c6] w fun x w' => x = .returned (.bool true) ∧ Below w.heap.size w w' := by
  have H := HP.start w
  obtain ⟨s0, s1, s2, s3, s5, s6, hT, hI⟩ := ar
  refine calls_CE Try.func7 rfl Try.ntmps7 rfl rfl ?_
  refine CE_seq ?_
  refine CE_reg ?_
  refine EL_p (Pu_as rfl) rfl ?_
  refine EL_nil ?_
  refine CE_seq ?_
  refine CE_seq ?_
  refine CE_reg ?_
  refine EL_p (Pu_mv rfl) rfl ?_
  refine EL_p (Pu_mv rfl) rfl ?_
  refine EL_p (Pu_mv rfl) rfl ?_
  refine EL_p (Pu_mv rfl) rfl ?_
  refine EL_p (Pu_mv rfl) rfl ?_
  refine EL_p (Pu_mv rfl) rfl ?_
  refine EL_p (Pu_mv rfl) rfl ?_
  refine EL_L rfl (Lo_call ca25 rfl ((bytes25 H).mono (fun y w1 hh => ?_)))
  obtain ⟨⟨bb, hy, hbb⟩, H1⟩ := hh
  refine ⟨_, hy, ?_⟩
  refine EL_p (Pu_not rfl) rfl ?_
  refine EL_nil ?_
  refine CE_cB rfl (fun c86 => ?_) (fun c86 => ?_)
  · refine CE_seq ?_
    refine CE_reg ?_
    refine EL_p (Pu_as rfl) rfl ?_
    refine EL_nil ?_
    refine CE_ret ?_
    exact ⟨_, rfl, rfl, H1.below⟩
  · have hb := hbb c86
    refine CE_skip ?_
    refine CE_seq ?_
    refine CE_seq ?_
    refine CE_reg ?_
    refine EL_p (Pu_mv rfl) rfl ?_
    refine EL_p (Pu_len rfl sl22 rfl) rfl ?_
    refine EL_p (Pu_mv rfl) rfl ?_
    refine EL_p (Pu_len rfl sl23 rfl) rfl ?_
    refine EL_p (Pu_mul rfl rfl (w64 (by omega))) rfl ?_
    refine EL_p (Pu_add rfl rfl (w64 (by omega))) rfl ?_
    refine EL_p (Pu_mv rfl) rfl ?_
    refine EL_p (Pu_len rfl sl24 rfl) rfl ?_
    refine EL_p (Pu_mul rfl rfl (w64 (by omega))) rfl ?_
    refine EL_p (Pu_add rfl rfl (w64 (by omega))) rfl ?_
    refine EL_p (Pu_mv rfl) rfl ?_
    refine EL_p (Pu_len rfl sl24 rfl) rfl ?_
    refine EL_p (Pu_mul rfl rfl (w64 (by omega))) rfl ?_
    refine EL_p (Pu_add rfl rfl (w64 (by omega))) rfl ?_
    refine EL_p (Pu_mv rfl) rfl ?_
    refine EL_p (Pu_len rfl sl25 rfl) rfl ?_
    refine EL_p (Pu_add rfl rfl (w64 (by omega))) rfl ?_
    refine EL_p (Pu_mv rfl) rfl ?_
    refine EL_p (Pu_len rfl sl23 rfl) rfl ?_
    refine EL_p (Pu_mul rfl rfl (w64 (by omega))) rfl ?_
    refine EL_p (Pu_add rfl rfl (w64 (by omega))) rfl ?_
    refine EL_p (Pu_gtr rfl rfl) rfl ?_
    refine EL_nil ?_
    refine CE_cP rfl (fun c108 => ?_) (fun c108 => ?_)
    · refine CE_seq ?_
      refine CE_reg ?_
      refine EL_p (Pu_as rfl) rfl ?_
      refine EL_nil ?_
      refine CE_ret ?_
      exact ⟨_, rfl, rfl, H1.below⟩
    · refine CE_skip ?_
      refine CE_seq ?_
      refine CE_seq ?_
      refine CE_reg ?_
      refine EL_p (Pu_mv rfl) rfl ?_
      refine EL_p (Pu_len rfl sl22 rfl) rfl ?_
      refine EL_p (Pu_gtr rfl rfl) rfl ?_
      refine EL_p (Pu_mv rfl) rfl ?_
      refine EL_gP rfl rfl (fun g112 => ?_) (fun g112 => ?_)
      · refine EL_no rfl rfl rfl rfl ?_
        refine EL_no rfl rfl rfl rfl ?_
        refine EL_no rfl rfl rfl rfl ?_
        refine EL_p (Pu_pt rfl rfl) rfl ?_
        refine EL_p (Pu_mv rfl) rfl ?_
        refine EL_no rfl rfl rfl rfl ?_
        refine EL_no rfl rfl rfl rfl ?_
        refine EL_no rfl rfl rfl rfl ?_
        refine EL_p (Pu_pt rfl rfl) rfl ?_
        refine EL_p (Pu_mv rfl) rfl ?_
        refine EL_no rfl rfl rfl rfl ?_
        refine EL_no rfl rfl rfl rfl ?_
        refine EL_no rfl rfl rfl rfl ?_
        refine EL_p (Pu_pt rfl rfl) rfl ?_
        refine EL_p (Pu_mv rfl) rfl ?_
        refine EL_no rfl rfl rfl rfl ?_
        refine EL_no rfl rfl rfl rfl ?_
        refine EL_no rfl rfl rfl rfl ?_
        refine EL_p (Pu_pt rfl rfl) rfl ?_
        refine EL_p (Pu_mv rfl) rfl ?_
        refine EL_no rfl rfl rfl rfl ?_
        refine EL_no rfl rfl rfl rfl ?_
        refine EL_no rfl rfl rfl rfl ?_
        refine EL_p (Pu_pt rfl rfl) rfl ?_
        refine EL_nil ?_
        refine CE_cond_t rfl ?_
        refine CE_seq ?_
        refine CE_reg ?_
        refine EL_p (Pu_as rfl) rfl ?_
        refine EL_nil ?_
        refine CE_ret ?_
        exact ⟨_, rfl, rfl, H1.below⟩
      · refine EL_yes rfl rfl ?_
        refine EL_p (Pu_mv rfl) rfl ?_
        refine EL_yes rfl rfl ?_
        refine EL_p (Pu_len rfl sl23 rfl) rfl ?_
        refine EL_yes rfl rfl ?_
        refine EL_p (Pu_gtr rfl rfl) rfl ?_
        refine EL_p (Pu_pf rfl rfl) rfl ?_
        refine EL_p (Pu_mv rfl) rfl ?_
        refine EL_gP rfl rfl (fun g117 => ?_) (fun g117 => ?_)
        · refine EL_no rfl rfl rfl rfl ?_
          refine EL_no rfl rfl rfl rfl ?_
          refine EL_no rfl rfl rfl rfl ?_
          refine EL_p (Pu_pt rfl rfl) rfl ?_
          refine EL_p (Pu_mv rfl) rfl ?_
          refine EL_no rfl rfl rfl rfl ?_
          refine EL_no rfl rfl rfl rfl ?_
          refine EL_no rfl rfl rfl rfl ?_
          refine EL_p (Pu_pt rfl rfl) rfl ?_
          refine EL_p (Pu_mv rfl) rfl ?_
          refine EL_no rfl rfl rfl rfl ?_
          refine EL_no rfl rfl rfl rfl ?_
          refine EL_no rfl rfl rfl rfl ?_
          refine EL_p (Pu_pt rfl rfl) rfl ?_
          refine EL_p (Pu_mv rfl) rfl ?_
          refine EL_no rfl rfl rfl rfl ?_
          refine EL_no rfl rfl rfl rfl ?_
          refine EL_no rfl rfl rfl rfl ?_
          refine EL_p (Pu_pt rfl rfl) rfl ?_
          refine EL_nil ?_
          refine CE_cond_t rfl ?_
          refine CE_seq ?_
          refine CE_reg ?_
          refine EL_p (Pu_as rfl) rfl ?_
          refine EL_nil ?_
          refine CE_ret ?_
          exact ⟨_, rfl, rfl, H1.below⟩
        · refine EL_yes rfl rfl ?_
          refine EL_p (Pu_mv rfl) rfl ?_
          refine EL_yes rfl rfl ?_
          refine EL_p (Pu_len rfl sl24 rfl) rfl ?_
          refine EL_yes rfl rfl ?_
          refine EL_p (Pu_gtr rfl rfl) rfl ?_
          refine EL_p (Pu_pf rfl rfl) rfl ?_
          refine EL_p (Pu_mv rfl) rfl ?_
          refine EL_gP rfl rfl (fun g122 => ?_) (fun g122 => ?_)
          · refine EL_no rfl rfl rfl rfl ?_
            refine EL_no rfl rfl rfl rfl ?_
            refine EL_no rfl rfl rfl rfl ?_
            refine EL_p (Pu_pt rfl rfl) rfl ?_
            refine EL_p (Pu_mv rfl) rfl ?_
            refine EL_no rfl rfl rfl rfl ?_
            refine EL_no rfl rfl rfl rfl ?_
            refine EL_no rfl rfl rfl rfl ?_
            refine EL_p (Pu_pt rfl rfl) rfl ?_
            refine EL_p (Pu_mv rfl) rfl ?_
            refine EL_no rfl rfl rfl rfl ?_
            refine EL_no rfl rfl rfl rfl ?_
            refine EL_no rfl rfl rfl rfl ?_
            refine EL_p (Pu_pt rfl rfl) rfl ?_
            refine EL_nil ?_
            refine CE_cond_t rfl ?_
            refine CE_seq ?_
            refine CE_reg ?_
            refine EL_p (Pu_as rfl) rfl ?_
            refine EL_nil ?_
            refine CE_ret ?_
            exact ⟨_, rfl, rfl, H1.below⟩
          · refine EL_yes rfl rfl ?_
            refine EL_p (Pu_mv rfl) rfl ?_
            refine EL_yes rfl rfl ?_
            refine EL_p (Pu_len rfl sl24 rfl) rfl ?_
            refine EL_yes rfl rfl ?_
            refine EL_p (Pu_gtr rfl rfl) rfl ?_
            refine EL_p (Pu_pf rfl rfl) rfl ?_
            refine EL_p (Pu_mv rfl) rfl ?_
            refine EL_gP rfl rfl (fun g127 => ?_) (fun g127 => ?_)
            · refine EL_no rfl rfl rfl rfl ?_
              refine EL_no rfl rfl rfl rfl ?_
              refine EL_no rfl rfl rfl rfl ?_
              refine EL_p (Pu_pt rfl rfl) rfl ?_
              refine EL_p (Pu_mv rfl) rfl ?_
              refine EL_no rfl rfl rfl rfl ?_
              refine EL_no rfl rfl rfl rfl ?_
              refine EL_no rfl rfl rfl rfl ?_
              refine EL_p (Pu_pt rfl rfl) rfl ?_
              refine EL_nil ?_
              refine CE_cond_t rfl ?_
              refine CE_seq ?_
              refine CE_reg ?_
              refine EL_p (Pu_as rfl) rfl ?_
              refine EL_nil ?_
              refine CE_ret ?_
              exact ⟨_, rfl, rfl, H1.below⟩
            · refine EL_yes rfl rfl ?_
              refine EL_p (Pu_mv rfl) rfl ?_
              refine EL_yes rfl rfl ?_
              refine EL_p (Pu_len rfl sl25 rfl) rfl ?_
              refine EL_yes rfl rfl ?_
              refine EL_p (Pu_gtr rfl rfl) rfl ?_
              refine EL_p (Pu_pf rfl rfl) rfl ?_
              refine EL_p (Pu_mv rfl) rfl ?_
              refine EL_gP rfl rfl (fun g132 => ?_) (fun g132 => ?_)
              · refine EL_no rfl rfl rfl rfl ?_
                refine EL_no rfl rfl rfl rfl ?_
                refine EL_no rfl rfl rfl rfl ?_
                refine EL_p (Pu_pt rfl rfl) rfl ?_
                refine EL_nil ?_
                refine CE_cond_t rfl ?_
                refine CE_seq ?_
                refine CE_reg ?_
                refine EL_p (Pu_as rfl) rfl ?_
                refine EL_nil ?_
                refine CE_ret ?_
                exact ⟨_, rfl, rfl, H1.below⟩
              · refine EL_yes rfl rfl ?_
                refine EL_p (Pu_mv rfl) rfl ?_
                refine EL_yes rfl rfl ?_
                refine EL_p (Pu_len rfl sl23 rfl) rfl ?_
                refine EL_yes rfl rfl ?_
                refine EL_p (Pu_gtr rfl rfl) rfl ?_
                refine EL_p (Pu_pf rfl rfl) rfl ?_
                refine EL_nil ?_
                refine CE_cP rfl (fun c136 => ?_) (fun c136 => ?_)
                · refine CE_seq ?_
                  refine CE_reg ?_
                  refine EL_p (Pu_as rfl) rfl ?_
                  refine EL_nil ?_
                  refine CE_ret ?_
                  exact ⟨_, rfl, rfl, H1.below⟩
                · refine CE_skip ?_
                  refine CE_seq ?_
                  refine CE_seq ?_
                  refine CE_reg ?_
                  refine EL_p (Pu_mv rfl) rfl ?_
                  refine EL_p (Pu_lss rfl rfl) rfl ?_
                  refine EL_p (Pu_mv rfl) rfl ?_
                  refine EL_gP rfl rfl (fun g139 => ?_) (fun g139 => ?_)
                  · refine EL_no rfl rfl rfl rfl ?_
                    refine EL_no rfl rfl rfl rfl ?_
                    refine EL_p (Pu_pt rfl rfl) rfl ?_
                    refine EL_nil ?_
                    refine CE_cond_t rfl ?_
                    refine CE_seq ?_
                    refine CE_reg ?_
                    refine EL_p (Pu_as rfl) rfl ?_
                    refine EL_nil ?_
                    refine CE_ret ?_
                    exact ⟨_, rfl, rfl, H1.below⟩
                  · refine EL_yes rfl rfl ?_
                    refine EL_p (Pu_mv rfl) rfl ?_
                    refine EL_yes rfl rfl ?_
                    refine EL_p (Pu_gtr rfl rfl) rfl ?_
                    refine EL_p (Pu_pf rfl rfl) rfl ?_
                    refine EL_nil ?_
                    refine CE_cP rfl (fun c142 => ?_) (fun c142 => ?_)
                    · refine CE_seq ?_
                      refine CE_reg ?_
                      refine EL_p (Pu_as rfl) rfl ?_
                      refine EL_nil ?_
                      refine CE_ret ?_
                      exact ⟨_, rfl, rfl, H1.below⟩
                    · obtain ⟨m, rfl⟩ : ∃ k : Nat, m = k := ⟨m.toNat, by omega⟩
                      refine CE_skip ?_
                      refine CE_seq ?_
                      refine CE_seq ?_
                      refine CE_reg ?_
                      refine EL_p (Pu_mv rfl) rfl ?_
                      refine EL_p (Pu_mv rfl) rfl ?_
                      refine EL_p (Pu_mv rfl) rfl ?_
                      refine EL_p (Pu_mv rfl) rfl ?_
                      refine EL_p (Pu_mv rfl) rfl ?_
                      refine EL_p (Pu_mv rfl) rfl ?_
                      refine EL_L rfl (Lo_call ca10 rfl ((shape10 H1 s0 s2 s3 hT hI (by omega)).mono (fun y w2 hh => ?_)))
                      obtain ⟨b10, hy, hsh, H2⟩ := hh
                      refine ⟨_, hy, ?_⟩
                      refine EL_p (Pu_not rfl) rfl ?_
                      refine EL_nil ?_
                      refine CE_cB rfl (fun c150 => ?_) (fun c150 => ?_)
                      · refine CE_seq ?_
                        refine CE_reg ?_
                        refine EL_p (Pu_as rfl) rfl ?_
                        refine EL_nil ?_
                        refine CE_ret ?_
                        exact ⟨_, rfl, rfl, H2.below⟩
                      · obtain ⟨e2, e3, e5, m0, ok⟩ := hsh c150
                        subst e2 e3 e5
                        have hTr : ∀ i, i < l3 → 0 ≤ T i ∧ T i < l5 := fun i hi => ⟨(ok i hi).1, (ok i hi).2.1⟩
                        refine CE_skip ?_
                        refine CE_seq ?_
                        refine CE_reg ?_
                        refine EL_p (Pu_mv rfl) rfl ?_
                        refine EL_L rfl (Lo_call ca12 rfl ((clone12 H2 s0 (by omega)).mono (fun y w4 hh => ?_)))
                        obtain ⟨z0, b0, hy, H4⟩ := hh
                        refine ⟨_, hy, ?_⟩
                        refine EL_p (Pu_as rfl) rfl ?_
                        refine EL_nil ?_
                        refine CE_seq ?_
                        refine CE_reg ?_
                        refine EL_p (Pu_mv rfl) rfl ?_
                        refine EL_L rfl (Lo_call ca13 rfl ((clone13 H4 s1 (by omega)).mono (fun y w5 hh => ?_)))
                        obtain ⟨z1, b1, hy, H5⟩ := hh
                        refine ⟨_, hy, ?_⟩
                        refine EL_p (Pu_as rfl) rfl ?_
                        refine EL_nil ?_
                        refine CE_seq ?_
                        refine CE_reg ?_
                        refine EL_p (Pu_mv rfl) rfl ?_
                        refine EL_L rfl (Lo_call ca14 rfl ((clone14 H5 s2 (by omega)).mono (fun y w6 hh => ?_)))
                        obtain ⟨z2, b2, hy, H6⟩ := hh
                        refine ⟨_, hy, ?_⟩
                        refine EL_p (Pu_as rfl) rfl ?_
                        refine EL_nil ?_
                        refine CE_seq ?_
                        refine CE_reg ?_
                        refine EL_p (Pu_mv rfl) rfl ?_
                        refine EL_L rfl (Lo_call ca14 rfl ((clone14 H6 s3 (by omega)).mono (fun y w7 hh => ?_)))
                        obtain ⟨z3, b3, hy, H7⟩ := hh
                        refine ⟨_, hy, ?_⟩
                        refine EL_p (Pu_as rfl) rfl ?_
                        refine EL_nil ?_
                        refine CE_seq ?_
                        refine CE_reg ?_
                        refine EL_p (Pu_mv rfl) rfl ?_
                        refine EL_L rfl (Lo_call ca15 rfl ((clone15 H7 s5 (by omega)).mono (fun y w8 hh => ?_)))
                        obtain ⟨z5, b5, hy, H8⟩ := hh
                        refine ⟨_, hy, ?_⟩
                        refine EL_p (Pu_as rfl) rfl ?_
                        refine EL_nil ?_
                        refine CE_seq ?_
                        refine CE_reg ?_
                        refine EL_p (Pu_mv rfl) rfl ?_
                        refine EL_L rfl (Lo_call ca13 rfl ((clone13 H8 s6 (by omega)).mono (fun y w9 hh => ?_)))
                        obtain ⟨z6, b6, hy, H9⟩ := hh
                        refine ⟨_, hy, ?_⟩
                        refine EL_p (Pu_as rfl) rfl ?_
                        refine EL_nil ?_
                        refine CE_seq ?_
                        refine CE_reg ?_
                        refine EL_p (Pu_mv rfl) rfl ?_
                        refine EL_p (Pu_mv rfl) rfl ?_
                        refine EL_p (Pu_mv rfl) rfl ?_
                        refine EL_p (Pu_mv rfl) rfl ?_
                        refine EL_p (Pu_mv rfl) rfl ?_
                        refine EL_p (Pu_mv rfl) rfl ?_
                        refine EL_p (Pu_mv rfl) rfl ?_
                        refine EL_L rfl (Lo_call ca16 rfl ((indexed16 H9 (List.mem_of_getElem? (i := 5) rfl) (by omega) rfl rfl rfl rfl rfl).mono (fun y w10 hh => ?_)))
                        obtain ⟨hb', ob, hy, H10⟩ := hh
                        refine ⟨_, hy, ?_⟩
                        obtain ⟨L, H11, hin, hact⟩ := H10.hist6 (fun p hp => (hTr p hp).1)
                        have hok := mkH_ok (hb := hb') (ob := ob) (z1 := z1) (b1 := b1) (z2 := z2) (b2 := b2) (z3 := z3) (b3 := b3) (z5 := z5) (b5 := b5) (ev := aval z6 b6 l6) (X := X) (B := B) (show l3 ≤ 4096 by omega) (show l5 ≤ 4096 by omega) (show m ≤ 65536 by omega) ok
                        refine EL_p (Pu_as rfl) rfl ?_
                        refine EL_nil ?_
                        refine CE_midG (fun (s : GS3) => [(0, aval s.B.z0 s.B.b0 s.h.n), (2, aval s.h.zt s.h.bt s.h.n), (3, aval s.h.zi s.h.bi s.h.n), (4, .int .i64 s.h.m), (5, aval s.h.za s.h.ba s.h.nt), (16, .pointer (some ⟨s.B.gb, 0, none⟩)), (1, aval s.h.zx s.h.bx s.h.nt), (15, .pointer (some ⟨s.h.hb, 0, none⟩))]) (fun s w' => ∃ M, HP w w' M ∧ GM s.h s.G s.B M ∧ GInv s.h s.G ∧ HOK s.h) ?_ (fun s w11 hmid => ?_)
                        · refine CE_reg ?_
                          refine EL_p (Pu_mv rfl) rfl ?_
                          refine EL_L rfl (Lo_call ca23 rfl ((newGraph23 H11 hin hok).mono (fun y w12 hh => ?_)))
                          obtain ⟨gb, ab, wb, tb, ub, G, hy, hg, H12⟩ := hh
                          refine ⟨_, hy, ?_⟩
                          refine EL_p (Pu_as rfl) rfl ?_
                          refine EL_nil ?_
                          exact ⟨⟨_, G, ⟨gb, ab, wb, tb, ub, z0, b0⟩⟩, ⟨_, H12, GM.ofGL hin hact, hg, hok⟩, rfl, rfl, rfl, rfl, rfl, rfl, rfl, rfl, trivial⟩
                        obtain ⟨M, HM, gm, gi, ho⟩ := hmid
                        have hon := ho.hn
                        have hont := ho.hnt
                        have hom := ho.hm
                        refine CE_seq ?_
                        refine CE_reg ?_
                        refine EL_p (Pu_mv rfl) rfl ?_
                        refine EL_p (Pu_len rfl sl22 rfl) rfl ?_
                        refine EL_p (Pu_as rfl) rfl ?_
                        refine EL_nil ?_
                        refine CE_seq ?_
                        refine CE_reg ?_
                        refine EL_p (Pu_mv rfl) rfl ?_
                        refine EL_p (Pu_len rfl sl23 rfl) rfl ?_
                        refine EL_p (Pu_as rfl) rfl ?_
                        refine EL_nil ?_
                        refine CE_seq ?_
                        refine CE_reg ?_
                        refine EL_p (Pu_mv rfl) rfl ?_
                        refine EL_L rfl (Lo_make1 (c := s.h.nt) HM rfl rfl rfl Try.underlying23 ze3 rfl (by omega) (by omega) (fun qd w19 H19 => ?_))
                        refine EL_p (Pu_as rfl) rfl ?_
                        refine EL_nil ?_
                        refine CE_seq ?_
                        refine CE_seq ?_
                        refine CE_reg ?_
                        refine EL_p (Pu_as rfl) rfl ?_
                        refine EL_nil ?_
                        refine CE_block ?_
                        have H20 : HP w w19 (Blk qd s.h.nt (fun u => .int .i64 ((xsF s.h u (0)).length : Int)) :: M) := H19.congr (j := 0) rfl (fun _ _ => rfl)
                        refine CE_loop (fun (p : Nat) w' => p ≤ s.h.n ∧ HP w w' (Blk qd s.h.nt (fun u => .int .i64 ((xsF s.h u (p)).length : Int)) :: M)) (fun p => [(0, aval s.B.z0 s.B.b0 s.h.n), (2, aval s.h.zt s.h.bt s.h.n), (3, aval s.h.zi s.h.bi s.h.n), (4, .int .i64 s.h.m), (5, aval s.h.za s.h.ba s.h.nt), (16, .pointer (some ⟨s.B.gb, 0, none⟩)), (17, .int .i64 s.h.n), (18, .int .i64 s.h.nt), (19, .slice (some ⟨qd, 0, none⟩) s.h.nt s.h.nt), (20, .int .i64 p)]) (fun p => s.h.n - p) 0 ⟨Nat.zero_le _, H20⟩ ⟨rfl, rfl, rfl, rfl, rfl, rfl, rfl, rfl, rfl, rfl, trivial⟩ ?_
                        rintro p w20 ⟨hp, H21⟩
                        have gmD : GM s.h s.G s.B (Blk qd s.h.nt (fun u => .int .i64 ((xsF s.h u (p)).length : Int)) :: M) := gm.cons _
                        refine CE_seq ?_
                        refine CE_seq ?_
                        refine CE_reg ?_
                        refine EL_p (Pu_mv rfl) rfl ?_
                        refine EL_p (Pu_mv rfl) rfl ?_
                        refine EL_p (Pu_lss rfl rfl) rfl ?_
                        refine EL_nil ?_
                        refine CE_cP rfl (fun c181 => ?_) (fun c181 => ?_)
                        · have hlt : p < s.h.n := by omega
                          have hTp := (ho.ok p hlt).1
                          have hok := (ho.ok p hlt).2
                          refine CE_skip ?_
                          refine CE_seq ?_
                          refine CE_block ?_
                          refine CE_seq ?_
                          refine CE_reg ?_
                          refine EL_p (Pu_mv rfl) rfl ?_
                          refine EL_p (Pu_mv rfl) rfl ?_
                          refine EL_p (Pu_ixA rfl rfl sl24 rfl hlt (H21.anzM gmD.inl.mi hlt)) rfl ?_
                          refine EL_ld rfl fl21 (H21.acellM gmD.inl.mi hlt) rfl ?_
                          refine EL_p (Pu_as rfl) rfl ?_
                          refine EL_nil ?_
                          refine CE_seq ?_
                          refine CE_reg ?_
                          refine EL_p (Pu_mv rfl) rfl ?_
                          refine EL_p (Pu_mv rfl) rfl ?_
                          refine EL_p (Pu_ixA rfl rfl sl24 rfl hlt (H21.anzM gmD.inl.mt hlt)) rfl ?_
                          refine EL_ld rfl fl21 (H21.acellM gmD.inl.mt hlt) rfl ?_
                          refine EL_p (Pu_as rfl) rfl ?_
                          refine EL_nil ?_
                          refine CE_midG (fun (x : Nat) => [(0, aval s.B.z0 s.B.b0 s.h.n), (2, aval s.h.zt s.h.bt s.h.n), (3, aval s.h.zi s.h.bi s.h.n), (4, .int .i64 s.h.m), (5, aval s.h.za s.h.ba s.h.nt), (16, .pointer (some ⟨s.B.gb, 0, none⟩)), (17, .int .i64 s.h.n), (18, .int .i64 s.h.nt), (19, .slice (some ⟨qd, 0, none⟩) s.h.nt s.h.nt), (20, .int .i64 p), (21, .int .i32 x), (22, .int .i32 (s.h.T p))]) (fun x w' => s.h.I p = (x : Nat) ∧ x < s.h.m ∧ lvB s.h p = true ∧ HP w w' (Blk qd s.h.nt (fun u => .int .i64 ((xsF s.h u (p)).length : Int)) :: M)) ?_ (fun x w21 hmid => ?_)
                          · refine CE_seq ?_
                            refine CE_reg ?_
                            refine EL_p (Pu_mv rfl) rfl ?_
                            refine EL_p (Pu_lss rfl rfl) rfl ?_
                            refine EL_p (Pu_mv rfl) rfl ?_
                            refine EL_gP rfl rfl (fun g194 => ?_) (fun g194 => ?_)
                            · refine EL_no rfl rfl rfl rfl ?_
                              refine EL_no rfl rfl rfl rfl ?_
                              refine EL_no rfl rfl rfl rfl ?_
                              refine EL_no rfl rfl rfl rfl ?_
                              refine EL_p (Pu_pt rfl rfl) rfl ?_
                              refine EL_nil ?_
                              refine CE_cond_t rfl ?_
                              refine CE_exit ?_
                              refine CE_reg ?_
                              refine EL_p (Pu_mv rfl) rfl ?_
                              refine EL_p (Pu_add rfl rfl (w64 (by omega))) rfl ?_
                              refine EL_p (Pu_as rfl) rfl ?_
                              refine EL_nil ?_
                              exact ⟨p + 1, by omega, ⟨rfl, rfl, rfl, rfl, rfl, rfl, rfl, rfl, rfl, rfl, trivial⟩, hlt, H21.congr (j := 0) rfl (fun u _ => congrArg (fun l : List Nat => Value.int .i64 (l.length : Int)) ((xsF_skip (lvB_neg g194)).symm))⟩
                            · refine EL_yes rfl rfl ?_
                              refine EL_p (Pu_mv rfl) rfl ?_
                              refine EL_yes rfl rfl ?_
                              refine EL_p (Pu_mv rfl) rfl ?_
                              refine EL_yes rfl rfl ?_
                              refine EL_p (Pu_ixA rfl rfl sl25 rfl hTp (H21.anzM gmD.inl.ma hTp)) rfl ?_
                              refine EL_yes rfl rfl ?_
                              refine EL_ld rfl fl4 (H21.acellM gmD.inl.ma hTp) rfl ?_
                              refine EL_p (Pu_pf rfl rfl) rfl ?_
                              refine EL_nil ?_
                              refine CE_cond rfl (fun c199 => ?_) (fun c199 => ?_)
                              · refine CE_exit ?_
                                refine CE_reg ?_
                                refine EL_p (Pu_mv rfl) rfl ?_
                                refine EL_p (Pu_add rfl rfl (w64 (by omega))) rfl ?_
                                refine EL_p (Pu_as rfl) rfl ?_
                                refine EL_nil ?_
                                exact ⟨p + 1, by omega, ⟨rfl, rfl, rfl, rfl, rfl, rfl, rfl, rfl, rfl, rfl, trivial⟩, hlt, H21.congr (j := 0) rfl (fun u _ => congrArg (fun l : List Nat => Value.int .i64 (l.length : Int)) ((xsF_skip (lvB_ab c199)).symm))⟩
                              · refine CE_skip ?_
                                obtain ⟨x, hx⟩ : ∃ x : Nat, s.h.I p = x := ⟨(s.h.I p).toNat, by omega⟩
                                have hxm : x < s.h.m := by omega
                                exact ⟨x, ⟨hx, hxm, lvB_yes (by omega) c199, H21⟩, rfl, rfl, rfl, rfl, rfl, rfl, rfl, rfl, rfl, rfl, congrArg (fun z => some (Value.int .i32 z)) hx, rfl, trivial⟩
                          obtain ⟨hx, hxm, hl, H22⟩ := hmid
                          have hxsl2 := xsF_len7 s.h (s.h.T p) p
                          refine CE_seq ?_
                          refine CE_reg ?_
                          refine EL_p (Pu_as rfl) rfl ?_
                          refine EL_nil ?_
                          refine CE_midG (fun (f' : Bool) => [(0, aval s.B.z0 s.B.b0 s.h.n), (2, aval s.h.zt s.h.bt s.h.n), (3, aval s.h.zi s.h.bi s.h.n), (4, .int .i64 s.h.m), (5, aval s.h.za s.h.ba s.h.nt), (16, .pointer (some ⟨s.B.gb, 0, none⟩)), (17, .int .i64 s.h.n), (18, .int .i64 s.h.nt), (19, .slice (some ⟨qd, 0, none⟩) s.h.nt s.h.nt), (20, .int .i64 p), (21, .int .i32 x), (22, .int .i32 (s.h.T p)), (23, .bool f')]) (fun f' w' => (f' = true ↔ ¬ ∃ q, q < p ∧ s.h.T q = s.h.T p ∧ s.h.I q = (x : Nat)) ∧ HP w w' (Blk qd s.h.nt (fun u => .int .i64 ((xsF s.h u (p)).length : Int)) :: M)) ?_ (fun f' w22 hmid => ?_)
                          · refine CE_seq ?_
                            refine CE_reg ?_
                            refine EL_p (Pu_as rfl) rfl ?_
                            refine EL_nil ?_
                            refine CE_block ?_
                            refine CE_loop (fun (k : Nat) w' => k ≤ p ∧ (¬ ∃ q, q < k ∧ s.h.T q = s.h.T p ∧ s.h.I q = (x : Nat)) ∧ HP w w' (Blk qd s.h.nt (fun u => .int .i64 ((xsF s.h u (p)).length : Int)) :: M)) (fun k => [(0, aval s.B.z0 s.B.b0 s.h.n), (2, aval s.h.zt s.h.bt s.h.n), (3, aval s.h.zi s.h.bi s.h.n), (4, .int .i64 s.h.m), (5, aval s.h.za s.h.ba s.h.nt), (16, .pointer (some ⟨s.B.gb, 0, none⟩)), (17, .int .i64 s.h.n), (18, .int .i64 s.h.nt), (19, .slice (some ⟨qd, 0, none⟩) s.h.nt s.h.nt), (20, .int .i64 p), (21, .int .i32 x), (22, .int .i32 (s.h.T p)), (23, .bool true), (24, .int .i64 k)]) (fun k => p - k) 0 ⟨Nat.zero_le _, (fun ⟨q, hq, _⟩ => absurd hq (Nat.not_lt_zero q)), H22⟩ ⟨rfl, rfl, rfl, rfl, rfl, rfl, rfl, rfl, rfl, rfl, rfl, rfl, rfl, rfl, trivial⟩ ?_
                            rintro k w22 ⟨hk, hno, H23⟩
                            refine CE_seq ?_
                            refine CE_seq ?_
                            refine CE_reg ?_
                            refine EL_p (Pu_mv rfl) rfl ?_
                            refine EL_p (Pu_mv rfl) rfl ?_
                            refine EL_p (Pu_lss rfl rfl) rfl ?_
                            refine EL_nil ?_
                            refine CE_cP rfl (fun c202 => ?_) (fun c202 => ?_)
                            · have hkl : k < p := by omega
                              have hkn : k < s.h.n := by omega
                              refine CE_skip ?_
                              refine CE_seq ?_
                              refine CE_block ?_
                              refine CE_seq ?_
                              refine CE_reg ?_
                              refine EL_p (Pu_mv rfl) rfl ?_
                              refine EL_p (Pu_mv rfl) rfl ?_
                              first | (refine EL_p (Pu_ixA rfl rfl sl24 rfl hkn (H23.anzM gmD.inl.mt hkn)) rfl ?_) | (refine EL_p (Pu_ixA rfl rfl sl24 rfl hkn (H23.anzM gmD.inl.mi hkn)) rfl ?_)
                              first | (refine EL_ld rfl fl21 (H23.acellM gmD.inl.mt hkn) rfl ?_) | (refine EL_ld rfl fl21 (H23.acellM gmD.inl.mi hkn) rfl ?_)
                              refine EL_p (Pu_mv rfl) rfl ?_
                              refine EL_p (Pu_eql rfl rfl) rfl ?_
                              refine EL_p (Pu_mv rfl) rfl ?_
                              refine EL_gP rfl rfl (fun g211 => ?_) (fun g211 => ?_)
                              · refine EL_yes rfl rfl ?_
                                refine EL_p (Pu_mv rfl) rfl ?_
                                refine EL_yes rfl rfl ?_
                                refine EL_p (Pu_mv rfl) rfl ?_
                                refine EL_yes rfl rfl ?_
                                first | (refine EL_p (Pu_ixA rfl rfl sl24 rfl hkn (H23.anzM gmD.inl.mt hkn)) rfl ?_) | (refine EL_p (Pu_ixA rfl rfl sl24 rfl hkn (H23.anzM gmD.inl.mi hkn)) rfl ?_)
                                refine EL_yes rfl rfl ?_
                                first | (refine EL_ld rfl fl21 (H23.acellM gmD.inl.mt hkn) rfl ?_) | (refine EL_ld rfl fl21 (H23.acellM gmD.inl.mi hkn) rfl ?_)
                                refine EL_yes rfl rfl ?_
                                refine EL_p (Pu_mv rfl) rfl ?_
                                refine EL_yes rfl rfl ?_
                                refine EL_p (Pu_eql rfl rfl) rfl ?_
                                refine EL_p (Pu_pt rfl rfl) rfl ?_
                                refine EL_nil ?_
                                refine CE_cP rfl (fun c218 => ?_) (fun c218 => ?_)
                                · refine CE_seq ?_
                                  refine CE_reg ?_
                                  refine EL_p (Pu_as rfl) rfl ?_
                                  refine EL_nil ?_
                                  refine CE_exit ?_
                                  exact ⟨false, ⟨⟨fun hh => Bool.noConfusion hh, fun hh => absurd ⟨k, hkl, Int.ofNat.inj g211, c218⟩ hh⟩, H23⟩, rfl, rfl, rfl, rfl, rfl, rfl, rfl, rfl, rfl, rfl, rfl, rfl, rfl, trivial⟩
                                · refine CE_skip ?_
                                  refine CE_reg ?_
                                  refine EL_p (Pu_mv rfl) rfl ?_
                                  refine EL_p (Pu_add rfl rfl (w64 (by omega))) rfl ?_
                                  refine EL_p (Pu_as rfl) rfl ?_
                                  refine EL_nil ?_
                                  refine ⟨k + 1, by omega, ⟨rfl, rfl, rfl, rfl, rfl, rfl, rfl, rfl, rfl, rfl, rfl, rfl, rfl, rfl, trivial⟩, hkl, ?_, H23⟩
                                  rintro ⟨q, h1, h2, h3⟩
                                  by_cases h4 : q = k
                                  · subst h4; exact c218 h3
                                  · exact hno ⟨q, by omega, h2, h3⟩
                              · refine EL_no rfl rfl rfl rfl ?_
                                refine EL_no rfl rfl rfl rfl ?_
                                refine EL_no rfl rfl rfl rfl ?_
                                refine EL_no rfl rfl rfl rfl ?_
                                refine EL_no rfl rfl rfl rfl ?_
                                refine EL_no rfl rfl rfl rfl ?_
                                refine EL_p (Pu_pf rfl rfl) rfl ?_
                                refine EL_nil ?_
                                refine CE_cond_f rfl ?_
                                refine CE_skip ?_
                                refine CE_reg ?_
                                refine EL_p (Pu_mv rfl) rfl ?_
                                refine EL_p (Pu_add rfl rfl (w64 (by omega))) rfl ?_
                                refine EL_p (Pu_as rfl) rfl ?_
                                refine EL_nil ?_
                                refine ⟨k + 1, by omega, ⟨rfl, rfl, rfl, rfl, rfl, rfl, rfl, rfl, rfl, rfl, rfl, rfl, rfl, rfl, trivial⟩, hkl, ?_, H23⟩
                                rintro ⟨q, h1, h2, h3⟩
                                by_cases h4 : q = k
                                · subst h4; exact g211 (congrArg Int.ofNat h2)
                                · exact hno ⟨q, by omega, h2, h3⟩
                            · refine CE_exit ?_
                              have hkp : k = p := by omega
                              rw [hkp] at hno
                              exact ⟨true, ⟨⟨fun _ => hno, fun _ => rfl⟩, H23⟩, rfl, rfl, rfl, rfl, rfl, rfl, rfl, rfl, rfl, rfl, rfl, rfl, rfl, trivial⟩
                          obtain ⟨hf, H23⟩ := hmid
                          have hmem := xsF_mem s.h (s.h.T p) x p
                          have hB := lvB_B hl
                          have hmem2 : x ∈ xsF s.h (s.h.T p) p ↔ ∃ q, q < p ∧ s.h.T q = s.h.T p ∧ s.h.I q = (x : Nat) := by
                            rw [hmem]
                            constructor
                            · rintro ⟨q, h1, h2, h3, h4⟩
                              have h5 := lvB_I h2
                              refine ⟨q, h1, h3, ?_⟩
                              unfold itm at h4; omega
                            · rintro ⟨q, h1, h2, h3⟩
                              exact ⟨q, h1, lvB_yes (by omega) (by rw [h2]; exact hB), h2, itm_eq h3⟩
                          refine CE_seq ?_
                          refine CE_reg ?_
                          refine EL_p (Pu_mv rfl) rfl ?_
                          refine EL_nil ?_
                          first | refine CE_cP rfl (fun c219 => ?_) (fun c219 => ?_) | refine CE_cN rfl (fun c219 => ?_) (fun c219 => ?_) | refine CE_cond rfl (fun c219 => ?_) (fun c219 => ?_)
                          · refine CE_reg ?_
                            refine EL_p (Pu_mv rfl) rfl ?_
                            refine EL_p (Pu_mv rfl) rfl ?_
                            refine EL_p (Pu_ix rfl rfl sl23 rfl hTp) rfl ?_
                            refine EL_ld rfl fl3 (H23.cell (j := 0) rfl hTp) rfl ?_
                            refine EL_p (Pu_add rfl rfl (w64 (by omega))) rfl ?_
                            refine EL_p (Pu_ix rfl rfl sl23 rfl hTp) rfl ?_
                            refine EL_L0 (Lo_st (j := 0) (i := s.h.T p) H23 rfl rfl rfl fl3 rfl hTp (fun w23 H24 => ?_))
                            refine EL_nil ?_
                            refine CE_reg ?_
                            refine EL_p (Pu_mv rfl) rfl ?_
                            refine EL_p (Pu_add rfl rfl (w64 (by omega))) rfl ?_
                            refine EL_p (Pu_as rfl) rfl ?_
                            refine EL_nil ?_
                            exact ⟨p + 1, by omega, ⟨rfl, rfl, rfl, rfl, rfl, rfl, rfl, rfl, rfl, rfl, trivial⟩, hlt, H24.congr (j := 0) rfl (setI (xsF_new hl hx (fun hh => (hf.1 c219) (hmem2.1 hh))))⟩
                          · refine CE_skip ?_
                            refine CE_reg ?_
                            refine EL_p (Pu_mv rfl) rfl ?_
                            refine EL_p (Pu_add rfl rfl (w64 (by omega))) rfl ?_
                            refine EL_p (Pu_as rfl) rfl ?_
                            refine EL_nil ?_
                            have hmm : x ∈ xsF s.h (s.h.T p) p := by
                              refine hmem2.2 (Classical.byContradiction fun hh => ?_)
                              rw [hf.2 hh] at c219
                              cases c219
                            exact ⟨p + 1, by omega, ⟨rfl, rfl, rfl, rfl, rfl, rfl, rfl, rfl, rfl, rfl, trivial⟩, hlt, H23.congr (j := 0) rfl (fun u _ => congrArg (fun l : List Nat => Value.int .i64 (l.length : Int)) ((xsF_old hx hmm).symm))⟩
                        · have hpn : p = s.h.n := by omega
                          subst hpn
                          refine CE_exit ?_
                          refine CE_seq ?_
                          refine CE_reg ?_
                          refine EL_p (Pu_mv rfl) rfl ?_
                          refine EL_L rfl (Lo_call ca26 rfl ((acc26 H21 gmD).mono (fun y w21 hh => ⟨_, hh.1, ?_⟩)))
                          have H23 := hh.2
                          refine EL_p (Pu_as rfl) rfl ?_
                          refine EL_nil ?_
                          refine CE_seq ?_
                          refine CE_reg ?_
                          refine EL_p (Pu_mv rfl) rfl ?_
                          refine EL_L rfl (Lo_call ca27 rfl ((wrs27 H23 gmD).mono (fun y w22 hh => ⟨_, hh.1, ?_⟩)))
                          have H24 := hh.2
                          refine EL_p (Pu_as rfl) rfl ?_
                          refine EL_nil ?_
                          refine CE_seq ?_
                          refine CE_seq ?_
                          refine CE_reg ?_
                          refine EL_p (Pu_mv rfl) rfl ?_
                          refine EL_p (Pu_len rfl sl41 rfl) rfl ?_
                          refine EL_p (Pu_mv rfl) rfl ?_
                          refine EL_p (Pu_neq rfl rfl) rfl ?_
                          refine EL_p (Pu_mv rfl) rfl ?_
                          refine EL_gN rfl rfl (fun g234 => ?_) (fun g234 => ?_)
                          · exact absurd rfl g234 --stop
                          · refine EL_yes rfl rfl ?_
                            refine EL_p (Pu_mv rfl) rfl ?_
                            refine EL_yes rfl rfl ?_
                            refine EL_p (Pu_len rfl sl41 rfl) rfl ?_
                            refine EL_yes rfl rfl ?_
                            refine EL_p (Pu_mv rfl) rfl ?_
                            refine EL_yes rfl rfl ?_
                            refine EL_p (Pu_neq rfl rfl) rfl ?_
                            refine EL_p (Pu_pf rfl rfl) rfl ?_
                            refine EL_p (Pu_mv rfl) rfl ?_
                            refine EL_gN rfl rfl (fun g240 => ?_) (fun g240 => ?_)
                            · exact absurd rfl g240 --stop
                            · refine EL_yes rfl rfl ?_
                              refine EL_p (Pu_mv rfl) rfl ?_
                              refine EL_yes rfl rfl ?_
                              refine EL_L rfl (Lo_call ca28 rfl ((tlen28 H24 gmD).mono (fun y w23 hh => ⟨_, hh.1, ?_⟩)))
                              have H25 := hh.2
                              refine EL_yes rfl rfl ?_
                              refine EL_p (Pu_mv rfl) rfl ?_
                              refine EL_yes rfl rfl ?_
                              refine EL_p (Pu_neq rfl rfl) rfl ?_
                              refine EL_p (Pu_pf rfl rfl) rfl ?_
                              refine EL_nil ?_
                              refine CE_cN rfl (fun c245 => ?_) (fun c245 => ?_)
                              · exact absurd rfl c245 --stop
                              · refine CE_skip ?_
                                refine CE_seq ?_
                                refine CE_reg ?_
                                refine EL_p (Pu_mv rfl) rfl ?_
                                refine EL_L rfl (Lo_make1 (c := s.h.nt) H25 rfl rfl rfl Try.underlying23 ze3 rfl (by omega) (by omega) (fun qfa w24 H26 => ?_))
                                refine EL_p (Pu_as rfl) rfl ?_
                                refine EL_nil ?_
                                refine CE_seq ?_
                                refine CE_reg ?_
                                refine EL_p (Pu_mv rfl) rfl ?_
                                refine EL_L rfl (Lo_make1 (c := s.h.nt) H26 rfl rfl rfl Try.underlying23 ze3 rfl (by omega) (by omega) (fun qfw w25 H27 => ?_))
                                refine EL_p (Pu_as rfl) rfl ?_
                                refine EL_nil ?_
                                refine CE_seq ?_
                                refine CE_reg ?_
                                refine EL_p (Pu_mv rfl) rfl ?_
                                refine EL_L rfl (Lo_make1 (c := s.h.nt) H27 rfl rfl rfl Try.underlying23 ze3 rfl (by omega) (by omega) (fun qla w26 H28 => ?_))
                                refine EL_p (Pu_as rfl) rfl ?_
                                refine EL_nil ?_
                                refine CE_seq ?_
                                refine CE_reg ?_
                                refine EL_p (Pu_mv rfl) rfl ?_
                                refine EL_L rfl (Lo_make1 (c := s.h.nt) H28 rfl rfl rfl Try.underlying23 ze3 rfl (by omega) (by omega) (fun qlw w27 H29 => ?_))
                                refine EL_p (Pu_as rfl) rfl ?_
                                refine EL_nil ?_
                                refine CE_seq ?_
                                refine CE_seq ?_
                                refine CE_reg ?_
                                refine EL_p (Pu_as rfl) rfl ?_
                                refine EL_nil ?_
                                refine CE_block ?_
                                have H30 : HP w w27 (Blk qlw s.h.nt (fun u => .int .i64 (iniF (0) u)) :: Blk qla s.h.nt (fun u => .int .i64 (iniF (0) u)) :: Blk qfw s.h.nt (fun u => .int .i64 (iniF (0) u)) :: Blk qfa s.h.nt (fun u => .int .i64 (iniF (0) u)) :: (Blk qd s.h.nt (fun u => .int .i64 ((xsF s.h u (s.h.n)).length : Int)) :: M)) := H29
                                refine CE_loop (fun (k : Nat) w' => k ≤ s.h.nt ∧ HP w w' (Blk qlw s.h.nt (fun u => .int .i64 (iniF (k) u)) :: Blk qla s.h.nt (fun u => .int .i64 (iniF (k) u)) :: Blk qfw s.h.nt (fun u => .int .i64 (iniF (k) u)) :: Blk qfa s.h.nt (fun u => .int .i64 (iniF (k) u)) :: (Blk qd s.h.nt (fun u => .int .i64 ((xsF s.h u (s.h.n)).length : Int)) :: M))) (fun k => [(0, aval s.B.z0 s.B.b0 s.h.n), (2, aval s.h.zt s.h.bt s.h.n), (3, aval s.h.zi s.h.bi s.h.n), (4, .int .i64 s.h.m), (5, aval s.h.za s.h.ba s.h.nt), (16, .pointer (some ⟨s.B.gb, 0, none⟩)), (17, .int .i64 s.h.n), (18, .int .i64 s.h.nt), (19, .slice (some ⟨qd, 0, none⟩) s.h.nt s.h.nt), (25, .slice (some ⟨s.B.ab, 0, none⟩) s.h.m s.h.m), (26, .slice (some ⟨s.B.wb, 0, none⟩) s.h.m s.h.m), (27, .slice (some ⟨qfa, 0, none⟩) s.h.nt s.h.nt), (28, .slice (some ⟨qfw, 0, none⟩) s.h.nt s.h.nt), (29, .slice (some ⟨qla, 0, none⟩) s.h.nt s.h.nt), (30, .slice (some ⟨qlw, 0, none⟩) s.h.nt s.h.nt), (31, .int .i64 k)]) (fun k => s.h.nt - k) 0 ⟨Nat.zero_le _, H30⟩ ⟨rfl, rfl, rfl, rfl, rfl, rfl, rfl, rfl, rfl, rfl, rfl, rfl, rfl, rfl, rfl, rfl, trivial⟩ ?_
                                rintro k w28 ⟨hk, H31⟩
                                refine CE_seq ?_
                                refine CE_seq ?_
                                refine CE_reg ?_
                                refine EL_p (Pu_mv rfl) rfl ?_
                                refine EL_p (Pu_mv rfl) rfl ?_
                                refine EL_p (Pu_lss rfl rfl) rfl ?_
                                refine EL_nil ?_
                                refine CE_cP rfl (fun c256 => ?_) (fun c256 => ?_)
                                · have hkl : k < s.h.nt := by omega
                                  refine CE_skip ?_
                                  refine CE_seq ?_
                                  refine CE_block ?_
                                  refine CE_seq ?_
                                  refine CE_reg ?_
                                  refine EL_p (Pu_mv rfl) rfl ?_
                                  refine EL_p (Pu_mv rfl) rfl ?_
                                  refine EL_p (Pu_ix rfl rfl sl23 rfl hkl) rfl ?_
                                  refine EL_L0 (Lo_st (j := 3) (i := k) H31 rfl rfl rfl fl3 rfl hkl (fun w29 H32 => ?_))
                                  have H33 : HP w w29 (Blk qlw s.h.nt (fun u => .int .i64 (iniF (k) u)) :: Blk qla s.h.nt (fun u => .int .i64 (iniF (k) u)) :: Blk qfw s.h.nt (fun u => .int .i64 (iniF (k) u)) :: Blk qfa s.h.nt (fun u => .int .i64 (iniF (k + 1) u)) :: (Blk qd s.h.nt (fun u => .int .i64 ((xsF s.h u (s.h.n)).length : Int)) :: M)) := H32.congr (j := 3) rfl (setI (fun _ => rfl))
                                  refine EL_nil ?_
                                  refine CE_seq ?_
                                  refine CE_reg ?_
                                  refine EL_p (Pu_mv rfl) rfl ?_
                                  refine EL_p (Pu_mv rfl) rfl ?_
                                  refine EL_p (Pu_ix rfl rfl sl23 rfl hkl) rfl ?_
                                  refine EL_L0 (Lo_st (j := 2) (i := k) H33 rfl rfl rfl fl3 rfl hkl (fun w30 H34 => ?_))
                                  have H35 : HP w w30 (Blk qlw s.h.nt (fun u => .int .i64 (iniF (k) u)) :: Blk qla s.h.nt (fun u => .int .i64 (iniF (k) u)) :: Blk qfw s.h.nt (fun u => .int .i64 (iniF (k + 1) u)) :: Blk qfa s.h.nt (fun u => .int .i64 (iniF (k + 1) u)) :: (Blk qd s.h.nt (fun u => .int .i64 ((xsF s.h u (s.h.n)).length : Int)) :: M)) := H34.congr (j := 2) rfl (setI (fun _ => rfl))
                                  refine EL_nil ?_
                                  refine CE_seq ?_
                                  refine CE_reg ?_
                                  refine EL_p (Pu_mv rfl) rfl ?_
                                  refine EL_p (Pu_mv rfl) rfl ?_
                                  refine EL_p (Pu_ix rfl rfl sl23 rfl hkl) rfl ?_
                                  refine EL_L0 (Lo_st (j := 1) (i := k) H35 rfl rfl rfl fl3 rfl hkl (fun w31 H36 => ?_))
                                  have H37 : HP w w31 (Blk qlw s.h.nt (fun u => .int .i64 (iniF (k) u)) :: Blk qla s.h.nt (fun u => .int .i64 (iniF (k + 1) u)) :: Blk qfw s.h.nt (fun u => .int .i64 (iniF (k + 1) u)) :: Blk qfa s.h.nt (fun u => .int .i64 (iniF (k + 1) u)) :: (Blk qd s.h.nt (fun u => .int .i64 ((xsF s.h u (s.h.n)).length : Int)) :: M)) := H36.congr (j := 1) rfl (setI (fun _ => rfl))
                                  refine EL_nil ?_
                                  refine CE_reg ?_
                                  refine EL_p (Pu_mv rfl) rfl ?_
                                  refine EL_p (Pu_mv rfl) rfl ?_
                                  refine EL_p (Pu_ix rfl rfl sl23 rfl hkl) rfl ?_
                                  refine EL_L0 (Lo_st (j := 0) (i := k) H37 rfl rfl rfl fl3 rfl hkl (fun v32 H38 => ?_))
                                  have H39 : HP w v32 (Blk qlw s.h.nt (fun u => .int .i64 (iniF (k + 1) u)) :: Blk qla s.h.nt (fun u => .int .i64 (iniF (k + 1) u)) :: Blk qfw s.h.nt (fun u => .int .i64 (iniF (k + 1) u)) :: Blk qfa s.h.nt (fun u => .int .i64 (iniF (k + 1) u)) :: (Blk qd s.h.nt (fun u => .int .i64 ((xsF s.h u (s.h.n)).length : Int)) :: M)) := H38.congr (j := 0) rfl (setI (fun _ => rfl))
                                  refine EL_nil ?_
                                  refine CE_reg ?_
                                  refine EL_p (Pu_mv rfl) rfl ?_
                                  refine EL_p (Pu_add rfl rfl (w64 (by omega))) rfl ?_
                                  refine EL_p (Pu_as rfl) rfl ?_
                                  refine EL_nil ?_
                                  exact ⟨k + 1, by omega, ⟨rfl, rfl, rfl, rfl, rfl, rfl, rfl, rfl, rfl, rfl, rfl, rfl, rfl, rfl, rfl, rfl, trivial⟩, hkl, H39⟩
                                · have hkn : k = s.h.nt := by omega
                                  have H32 : HP w w28 (Blk qlw s.h.nt (fun u => .int .i64 (-1)) :: Blk qla s.h.nt (fun u => .int .i64 (-1)) :: Blk qfw s.h.nt (fun u => .int .i64 (-1)) :: Blk qfa s.h.nt (fun u => .int .i64 (-1)) :: (Blk qd s.h.nt (fun u => .int .i64 ((xsF s.h u (s.h.n)).length : Int)) :: M)) := (((H31.congr (j := 0) rfl (fun u _ => congrArg (fun z : Int => Value.int .i64 z) (iniF_lt k (by omega)))).congr (j := 1) rfl (fun u _ => congrArg (fun z : Int => Value.int .i64 z) (iniF_lt k (by omega)))).congr (j := 2) rfl (fun u _ => congrArg (fun z : Int => Value.int .i64 z) (iniF_lt k (by omega)))).congr (j := 3) rfl (fun u _ => congrArg (fun z : Int => Value.int .i64 z) (iniF_lt k (by omega)))
                                  refine CE_exit ?_
                                  refine CE_seq ?_
                                  refine CE_reg ?_
                                  refine EL_p (Pu_mv rfl) rfl ?_
                                  refine EL_L rfl (Lo_make1 (c := s.h.nt) H32 rfl rfl rfl Try.underlying25 ze4 rfl (by omega) (by omega) (fun qsu w29 H33 => ?_))
                                  refine EL_p (Pu_as rfl) rfl ?_
                                  refine EL_nil ?_
                                  refine CE_seq ?_
                                  refine CE_reg ?_
                                  refine EL_p (Pu_mv rfl) rfl ?_
                                  refine EL_L rfl (Lo_make1 (c := s.h.nt) H33 rfl rfl rfl Try.underlying25 ze4 rfl (by omega) (by omega) (fun qpr w30 H34 => ?_))
                                  refine EL_p (Pu_as rfl) rfl ?_
                                  refine EL_nil ?_
                                  refine CE_seq ?_
                                  refine CE_seq ?_
                                  refine CE_reg ?_
                                  refine EL_p (Pu_as rfl) rfl ?_
                                  refine EL_nil ?_
                                  refine CE_block ?_
                                  refine CE_loop (fun (t : Nat) w' => t ≤ s.h.nt ∧ HP w w' (Blk qpr s.h.nt (fun u => .bool (false)) :: Blk qsu s.h.nt (fun u => .bool (false)) :: Blk qlw s.h.nt (fun u => .int .i64 (-1)) :: Blk qla s.h.nt (fun u => .int .i64 (-1)) :: Blk qfw s.h.nt (fun u => .int .i64 (-1)) :: Blk qfa s.h.nt (fun u => .int .i64 (-1)) :: (Blk qd s.h.nt (fun u => .int .i64 ((xsF s.h u (s.h.n)).length : Int)) :: M))) (fun t => [(0, aval s.B.z0 s.B.b0 s.h.n), (2, aval s.h.zt s.h.bt s.h.n), (3, aval s.h.zi s.h.bi s.h.n), (4, .int .i64 s.h.m), (5, aval s.h.za s.h.ba s.h.nt), (16, .pointer (some ⟨s.B.gb, 0, none⟩)), (17, .int .i64 s.h.n), (18, .int .i64 s.h.nt), (19, .slice (some ⟨qd, 0, none⟩) s.h.nt s.h.nt), (25, .slice (some ⟨s.B.ab, 0, none⟩) s.h.m s.h.m), (26, .slice (some ⟨s.B.wb, 0, none⟩) s.h.m s.h.m), (27, .slice (some ⟨qfa, 0, none⟩) s.h.nt s.h.nt), (28, .slice (some ⟨qfw, 0, none⟩) s.h.nt s.h.nt), (29, .slice (some ⟨qla, 0, none⟩) s.h.nt s.h.nt), (30, .slice (some ⟨qlw, 0, none⟩) s.h.nt s.h.nt), (32, .slice (some ⟨qsu, 0, none⟩) s.h.nt s.h.nt), (33, .slice (some ⟨qpr, 0, none⟩) s.h.nt s.h.nt), (34, .int .i64 t)]) (fun t => s.h.nt - t) 0 ⟨Nat.zero_le _, H34⟩ ⟨rfl, rfl, rfl, rfl, rfl, rfl, rfl, rfl, rfl, rfl, rfl, rfl, rfl, rfl, rfl, rfl, rfl, rfl, trivial⟩ ?_
                                  rintro t w31 ⟨ht, H35⟩
                                  have gmA : GM s.h s.G s.B (Blk qpr s.h.nt (fun u => .bool (false)) :: Blk qsu s.h.nt (fun u => .bool (false)) :: Blk qlw s.h.nt (fun u => .int .i64 (-1)) :: Blk qla s.h.nt (fun u => .int .i64 (-1)) :: Blk qfw s.h.nt (fun u => .int .i64 (-1)) :: Blk qfa s.h.nt (fun u => .int .i64 (-1)) :: (Blk qd s.h.nt (fun u => .int .i64 ((xsF s.h u (s.h.n)).length : Int)) :: M)) := (((((((gm.cons _).cons _).cons _).cons _).cons _).cons _).cons _)
                                  refine CE_seq ?_
                                  refine CE_seq ?_
                                  refine CE_reg ?_
                                  refine EL_p (Pu_mv rfl) rfl ?_
                                  refine EL_p (Pu_mv rfl) rfl ?_
                                  refine EL_p (Pu_lss rfl rfl) rfl ?_
                                  refine EL_nil ?_
                                  refine CE_cP rfl (fun c277 => ?_) (fun c277 => ?_)
                                  · have htl : t < s.h.nt := by omega
                                    have htk := gi.tch t htl
                                    have htkl := htk.len
                                    rw [List.length_map] at htkl
                                    have hlen2 : (tchF s.h t s.h.n).length = (xsF s.h t s.h.n).length := by rw [← tchF_items, List.length_map]
                                    have hxl2 := xsF_len7 s.h t s.h.n
                                    have hcnt : (s.G.Rt t).len = (xsF s.h t s.h.n).length := by omega
                                    refine CE_skip ?_
                                    refine CE_seq ?_
                                    refine CE_block ?_
                                    refine CE_seq ?_
                                    refine CE_reg ?_
                                    refine EL_p (Pu_mv rfl) rfl ?_
                                    refine EL_p (Pu_mv rfl) rfl ?_
                                    refine EL_L rfl (Lo_call ca29 rfl ((tcount29 H35 gmA htl).mono (fun y v32 hh => ⟨_, hh.1, ?_⟩)))
                                    have H36 := hh.2
                                    refine EL_p (Pu_as rfl) rfl ?_
                                    refine EL_nil ?_
                                    refine CE_seq ?_
                                    refine CE_seq ?_
                                    refine CE_reg ?_
                                    refine EL_p (Pu_mv rfl) rfl ?_
                                    refine EL_p (Pu_mv rfl) rfl ?_
                                    refine EL_p (Pu_mv rfl) rfl ?_
                                    refine EL_p (Pu_ix rfl rfl sl23 rfl htl) rfl ?_
                                    refine EL_ld rfl fl3 (H36.cell (j := 6) rfl htl) rfl ?_
                                    refine EL_p (Pu_neq rfl rfl) rfl ?_
                                    refine EL_nil ?_
                                    refine CE_cN rfl (fun c288 => ?_) (fun c288 => ?_)
                                    · exact absurd (show ((s.G.Rt t).len : Int) = ((xsF s.h t s.h.n).length : Int) by omega) c288 --stop
                                    · refine CE_skip ?_
                                      refine CE_seq ?_
                                      refine CE_reg ?_
                                      refine EL_p (Pu_as rfl) rfl ?_
                                      refine EL_nil ?_
                                      refine CE_block ?_
                                      refine CE_loop (fun (i : Nat) w' => i ≤ (xsF s.h t s.h.n).length ∧ HP w w' (Blk qpr s.h.nt (fun u => .bool (false)) :: Blk qsu s.h.nt (fun u => .bool (false)) :: Blk qlw s.h.nt (fun u => .int .i64 (-1)) :: Blk qla s.h.nt (fun u => .int .i64 (-1)) :: Blk qfw s.h.nt (fun u => .int .i64 (-1)) :: Blk qfa s.h.nt (fun u => .int .i64 (-1)) :: (Blk qd s.h.nt (fun u => .int .i64 ((xsF s.h u (s.h.n)).length : Int)) :: M))) (fun i => [(0, aval s.B.z0 s.B.b0 s.h.n), (2, aval s.h.zt s.h.bt s.h.n), (3, aval s.h.zi s.h.bi s.h.n), (4, .int .i64 s.h.m), (5, aval s.h.za s.h.ba s.h.nt), (16, .pointer (some ⟨s.B.gb, 0, none⟩)), (17, .int .i64 s.h.n), (18, .int .i64 s.h.nt), (19, .slice (some ⟨qd, 0, none⟩) s.h.nt s.h.nt), (25, .slice (some ⟨s.B.ab, 0, none⟩) s.h.m s.h.m), (26, .slice (some ⟨s.B.wb, 0, none⟩) s.h.m s.h.m), (27, .slice (some ⟨qfa, 0, none⟩) s.h.nt s.h.nt), (28, .slice (some ⟨qfw, 0, none⟩) s.h.nt s.h.nt), (29, .slice (some ⟨qla, 0, none⟩) s.h.nt s.h.nt), (30, .slice (some ⟨qlw, 0, none⟩) s.h.nt s.h.nt), (32, .slice (some ⟨qsu, 0, none⟩) s.h.nt s.h.nt), (33, .slice (some ⟨qpr, 0, none⟩) s.h.nt s.h.nt), (34, .int .i64 t), (35, .int .i64 ((xsF s.h t s.h.n).length : Int)), (36, .int .i64 i)]) (fun i => (xsF s.h t s.h.n).length - i) 0 ⟨Nat.zero_le _, H36⟩ ⟨rfl, rfl, rfl, rfl, rfl, rfl, rfl, rfl, rfl, rfl, rfl, rfl, rfl, rfl, rfl, rfl, rfl, rfl, congrArg (fun z : Nat => some (Value.int .i64 (z : Int))) hcnt, rfl, trivial⟩ ?_
                                      rintro i v33 ⟨hi8, H37⟩
                                      refine CE_seq ?_
                                      refine CE_seq ?_
                                      refine CE_reg ?_
                                      refine EL_p (Pu_mv rfl) rfl ?_
                                      refine EL_p (Pu_mv rfl) rfl ?_
                                      refine EL_p (Pu_lss rfl rfl) rfl ?_
                                      refine EL_nil ?_
                                      refine CE_cP rfl (fun c291 => ?_) (fun c291 => ?_)
                                      · have hil : i < (xsF s.h t s.h.n).length := by omega
                                        have hit : i < (tchF s.h t s.h.n).length := by omega
                                        have him : i < ((tchF s.h t s.h.n).map (finT s.h)).length := by rw [List.length_map]; exact hit
                                        have hfc : ((tchF s.h t s.h.n).map (finT s.h)).getD i (newT 0) = finT s.h ((tchF s.h t s.h.n).getD i (newT 0)) := by simp [List.getD, hit]
                                        have hone := tchF_at s.h t s.h.n i hit
                                        have hitem := tchF_item ho t s.h.n (Nat.le_refl _) i hit
                                        have hne : ∀ k, k < i → ((tchF s.h t s.h.n).getD k (newT 0)).item ≠ ((tchF s.h t s.h.n).getD i (newT 0)).item := fun k hk => tch_ne s.h t s.h.n hit hk
                                        generalize hc : (tchF s.h t s.h.n).getD i (newT 0) = c at hfc hone hitem hne
                                        obtain ⟨x, hxc⟩ : ∃ x, c.item = x := ⟨_, rfl⟩
                                        rw [hxc] at hone hitem
                                        obtain ⟨sa, sw, pa, pw, rg⟩ := Rg7.of hone hxc
                                        have hfx : (finT s.h c).item = x := hxc
                                        have h0 := fa_nonneg hone
                                        have hacc := gi.acc x hitem
                                        have haccl := hacc.len
                                        have haccl2 := accF_length s.h x s.h.n
                                        have hwrs := gi.wrs x hitem
                                        have hwrsl := hwrs.len
                                        have hwrsl2 := wrsF_length s.h x s.h.n
                                        have rg1 := rg.lsa
                                        have rg2 := rg.lsw
                                        have rg3 := rg.lpa
                                        have rg4 := rg.lpw
                                        refine CE_skip ?_
                                        refine CE_seq ?_
                                        refine CE_block ?_
                                        refine CE_midI ([(0, aval s.B.z0 s.B.b0 s.h.n), (2, aval s.h.zt s.h.bt s.h.n), (3, aval s.h.zi s.h.bi s.h.n), (4, .int .i64 s.h.m), (5, aval s.h.za s.h.ba s.h.nt), (16, .pointer (some ⟨s.B.gb, 0, none⟩)), (17, .int .i64 s.h.n), (18, .int .i64 s.h.nt), (19, .slice (some ⟨qd, 0, none⟩) s.h.nt s.h.nt), (25, .slice (some ⟨s.B.ab, 0, none⟩) s.h.m s.h.m), (26, .slice (some ⟨s.B.wb, 0, none⟩) s.h.m s.h.m), (27, .slice (some ⟨qfa, 0, none⟩) s.h.nt s.h.nt), (28, .slice (some ⟨qfw, 0, none⟩) s.h.nt s.h.nt), (29, .slice (some ⟨qla, 0, none⟩) s.h.nt s.h.nt), (30, .slice (some ⟨qlw, 0, none⟩) s.h.nt s.h.nt), (32, .slice (some ⟨qsu, 0, none⟩) s.h.nt s.h.nt), (33, .slice (some ⟨qpr, 0, none⟩) s.h.nt s.h.nt), (34, .int .i64 t), (35, .int .i64 ((xsF s.h t s.h.n).length : Int)), (36, .int .i64 i), (37, .int .i32 x), (38, .int .i32 sa), (39, .int .i32 sw), (40, .int .i32 pa), (41, .int .i32 pw)]) (fun w' => HP w w' (Blk qpr s.h.nt (fun u => .bool (false)) :: Blk qsu s.h.nt (fun u => .bool (false)) :: Blk qlw s.h.nt (fun u => .int .i64 (-1)) :: Blk qla s.h.nt (fun u => .int .i64 (-1)) :: Blk qfw s.h.nt (fun u => .int .i64 (-1)) :: Blk qfa s.h.nt (fun u => .int .i64 (-1)) :: (Blk qd s.h.nt (fun u => .int .i64 ((xsF s.h u (s.h.n)).length : Int)) :: M))) ?_ (fun v35 H39 => ?_)
                                        · refine CE_reg ?_
                                          refine EL_p (Pu_mv rfl) rfl ?_
                                          refine EL_p (Pu_mv rfl) rfl ?_
                                          refine EL_p (Pu_mv rfl) rfl ?_
                                          refine EL_L rfl (Lo_call ca30 rfl ((touch30 H37 gmA htl htk him).mono (fun y v34 hh => ⟨tval (finT s.h c), hh.1.trans (by rw [hfc]), ?_⟩)))
                                          have H38 := hh.2
                                          refine EL_p (Pu_mv rfl) rfl ?_
                                          refine EL_p (Pu_ext rfl rfl) rfl ?_
                                          refine EL_p (Pu_ext rfl rfl) rfl ?_
                                          refine EL_p (Pu_ext rfl rfl) rfl ?_
                                          refine EL_p (Pu_ext rfl rfl) rfl ?_
                                          refine EL_p (Pu_ext rfl rfl) rfl ?_
                                          refine EL_p (Pu_ext rfl rfl) rfl ?_
                                          refine EL_p (Pu_ext rfl rfl) rfl ?_
                                          refine EL_p (Pu_ext rfl rfl) rfl ?_
                                          refine EL_p (Pu_as rfl) rfl ?_
                                          refine EL_p (Pu_as rfl) rfl ?_
                                          refine EL_p (Pu_as rfl) rfl ?_
                                          refine EL_p (Pu_as rfl) rfl ?_
                                          refine EL_p (Pu_as rfl) rfl ?_
                                          refine EL_p (Pu_as rfl) rfl ?_
                                          refine EL_p (Pu_as rfl) rfl ?_
                                          refine EL_p (Pu_as rfl) rfl ?_
                                          refine EL_nil ?_
                                          exact ⟨H38, rfl, rfl, rfl, rfl, rfl, rfl, rfl, rfl, rfl, rfl, rfl, rfl, rfl, rfl, rfl, rfl, rfl, rfl, rfl, rfl, congrArg (fun z : Nat => some (Value.int .i32 (z : Int))) hfx, congrArg (fun z => some (Value.int .i32 z)) rg.esa, congrArg (fun z => some (Value.int .i32 z)) rg.esw, congrArg (fun z => some (Value.int .i32 z)) rg.epa, congrArg (fun z => some (Value.int .i32 z)) rg.epw, trivial⟩
                                        refine CE_seq ?_
                                        refine CE_seq ?_
                                        refine CE_reg ?_
                                        refine EL_p (Pu_mv rfl) rfl ?_
                                        refine EL_p (Pu_lss rfl rfl) rfl ?_
                                        refine EL_p (Pu_mv rfl) rfl ?_
                                        refine EL_gP rfl rfl (fun g309 => ?_) (fun g309 => ?_)
                                        · omega --stop
                                        · refine EL_yes rfl rfl ?_
                                          refine EL_p (Pu_mv rfl) rfl ?_
                                          refine EL_yes rfl rfl ?_
                                          refine EL_p (Pu_cnv rfl in21 in3 (w64 (by omega))) rfl ?_
                                          refine EL_yes rfl rfl ?_
                                          refine EL_p (Pu_mv rfl) rfl ?_
                                          refine EL_yes rfl rfl ?_
                                          refine EL_p (Pu_geq rfl rfl) rfl ?_
                                          refine EL_p (Pu_pf rfl rfl) rfl ?_
                                          refine EL_nil ?_
                                          refine CE_cP rfl (fun c314 => ?_) (fun c314 => ?_)
                                          · omega --stop
                                          · refine CE_skip ?_
                                            refine CE_seq ?_
                                            refine CE_seq ?_
                                            refine CE_reg ?_
                                            refine EL_p (Pu_as rfl) rfl ?_
                                            refine EL_nil ?_
                                            refine CE_block ?_
                                            refine CE_loop (fun (k : Nat) w' => k ≤ i ∧ HP w w' (Blk qpr s.h.nt (fun u => .bool (false)) :: Blk qsu s.h.nt (fun u => .bool (false)) :: Blk qlw s.h.nt (fun u => .int .i64 (-1)) :: Blk qla s.h.nt (fun u => .int .i64 (-1)) :: Blk qfw s.h.nt (fun u => .int .i64 (-1)) :: Blk qfa s.h.nt (fun u => .int .i64 (-1)) :: (Blk qd s.h.nt (fun u => .int .i64 ((xsF s.h u (s.h.n)).length : Int)) :: M))) (fun k => [(0, aval s.B.z0 s.B.b0 s.h.n), (2, aval s.h.zt s.h.bt s.h.n), (3, aval s.h.zi s.h.bi s.h.n), (4, .int .i64 s.h.m), (5, aval s.h.za s.h.ba s.h.nt), (16, .pointer (some ⟨s.B.gb, 0, none⟩)), (17, .int .i64 s.h.n), (18, .int .i64 s.h.nt), (19, .slice (some ⟨qd, 0, none⟩) s.h.nt s.h.nt), (25, .slice (some ⟨s.B.ab, 0, none⟩) s.h.m s.h.m), (26, .slice (some ⟨s.B.wb, 0, none⟩) s.h.m s.h.m), (27, .slice (some ⟨qfa, 0, none⟩) s.h.nt s.h.nt), (28, .slice (some ⟨qfw, 0, none⟩) s.h.nt s.h.nt), (29, .slice (some ⟨qla, 0, none⟩) s.h.nt s.h.nt), (30, .slice (some ⟨qlw, 0, none⟩) s.h.nt s.h.nt), (32, .slice (some ⟨qsu, 0, none⟩) s.h.nt s.h.nt), (33, .slice (some ⟨qpr, 0, none⟩) s.h.nt s.h.nt), (34, .int .i64 t), (35, .int .i64 ((xsF s.h t s.h.n).length : Int)), (36, .int .i64 i), (37, .int .i32 x), (38, .int .i32 sa), (39, .int .i32 sw), (40, .int .i32 pa), (41, .int .i32 pw), (45, .int .i64 k)]) (fun k => i - k) 0 ⟨Nat.zero_le _, H39⟩ ⟨rfl, rfl, rfl, rfl, rfl, rfl, rfl, rfl, rfl, rfl, rfl, rfl, rfl, rfl, rfl, rfl, rfl, rfl, rfl, rfl, rfl, rfl, rfl, rfl, rfl, rfl, trivial⟩ ?_
                                            rintro k v36 ⟨hk, H40⟩
                                            refine CE_seq ?_
                                            refine CE_seq ?_
                                            refine CE_reg ?_
                                            refine EL_p (Pu_mv rfl) rfl ?_
                                            refine EL_p (Pu_mv rfl) rfl ?_
                                            refine EL_p (Pu_lss rfl rfl) rfl ?_
                                            refine EL_nil ?_
                                            refine CE_cP rfl (fun c317 => ?_) (fun c317 => ?_)
                                            · have hki : k < i := by omega
                                              have hkt : k < (tchF s.h t s.h.n).length := by omega
                                              have hkm : k < ((tchF s.h t s.h.n).map (finT s.h)).length := by rw [List.length_map]; exact hkt
                                              have hfk : ((tchF s.h t s.h.n).map (finT s.h)).getD k (newT 0) = finT s.h ((tchF s.h t s.h.n).getD k (newT 0)) := by simp [List.getD, hkt]
                                              refine CE_skip ?_
                                              refine CE_seq ?_
                                              refine CE_block ?_
                                              refine CE_seq ?_
                                              refine CE_reg ?_
                                              refine EL_p (Pu_mv rfl) rfl ?_
                                              refine EL_p (Pu_mv rfl) rfl ?_
                                              refine EL_p (Pu_mv rfl) rfl ?_
                                              refine EL_L rfl (Lo_call ca30 rfl ((touch30 H40 gmA htl htk hkm).mono (fun y v37 hh => ⟨tval (finT s.h ((tchF s.h t s.h.n).getD k (newT 0))), hh.1.trans (by rw [hfk]), ?_⟩)))
                                              have H41 := hh.2
                                              refine EL_p (Pu_mv rfl) rfl ?_
                                              refine EL_p (Pu_ext rfl rfl) rfl ?_
                                              refine EL_p (Pu_ext rfl rfl) rfl ?_
                                              refine EL_p (Pu_ext rfl rfl) rfl ?_
                                              refine EL_p (Pu_ext rfl rfl) rfl ?_
                                              refine EL_p (Pu_ext rfl rfl) rfl ?_
                                              refine EL_p (Pu_ext rfl rfl) rfl ?_
                                              refine EL_p (Pu_ext rfl rfl) rfl ?_
                                              refine EL_p (Pu_ext rfl rfl) rfl ?_
                                              refine EL_p (Pu_as rfl) rfl ?_
                                              refine EL_p (Pu_as rfl) rfl ?_
                                              refine EL_p (Pu_as rfl) rfl ?_
                                              refine EL_p (Pu_as rfl) rfl ?_
                                              refine EL_p (Pu_as rfl) rfl ?_
                                              refine EL_p (Pu_as rfl) rfl ?_
                                              refine EL_p (Pu_as rfl) rfl ?_
                                              refine EL_p (Pu_as rfl) rfl ?_
                                              refine EL_nil ?_
                                              refine CE_seq ?_
                                              refine CE_reg ?_
                                              refine EL_p (Pu_mv rfl) rfl ?_
                                              refine EL_p (Pu_mv rfl) rfl ?_
                                              refine EL_p (Pu_eql rfl rfl) rfl ?_
                                              refine EL_nil ?_
                                              refine CE_cP rfl (fun c335 => ?_) (fun c335 => ?_)
                                              · exact absurd (show ((tchF s.h t s.h.n).getD k (newT 0)).item = c.item from (Int.ofNat.inj c335).trans hxc.symm) (hne k hki) --stop
                                              · refine CE_skip ?_
                                                refine CE_reg ?_
                                                refine EL_p (Pu_mv rfl) rfl ?_
                                                refine EL_p (Pu_add rfl rfl (w64 (by omega))) rfl ?_
                                                refine EL_p (Pu_as rfl) rfl ?_
                                                refine EL_nil ?_
                                                exact ⟨k + 1, by omega, ⟨rfl, rfl, rfl, rfl, rfl, rfl, rfl, rfl, rfl, rfl, rfl, rfl, rfl, rfl, rfl, rfl, rfl, rfl, rfl, rfl, rfl, rfl, rfl, rfl, rfl, rfl, trivial⟩, hki, H41⟩
                                            · refine CE_exit ?_
                                              refine CE_seq ?_
                                              refine CE_reg ?_
                                              refine EL_p (Pu_mv rfl) rfl ?_
                                              refine EL_p (Pu_mv rfl) rfl ?_
                                              refine EL_p (Pu_ix rfl rfl sl41 rfl hitem) rfl ?_
                                              refine EL_ld rfl fl24 (H40.cellM gmA.a hitem) rfl ?_
                                              refine EL_p (Pu_as rfl) rfl ?_
                                              refine EL_nil ?_
                                              refine CE_seq ?_
                                              refine CE_reg ?_
                                              refine EL_p (Pu_mv rfl) rfl ?_
                                              refine EL_p (Pu_mv rfl) rfl ?_
                                              refine EL_p (Pu_ix rfl rfl sl41 rfl hitem) rfl ?_
                                              refine EL_ld rfl fl24 (H40.cellM gmA.w hitem) rfl ?_
                                              refine EL_p (Pu_as rfl) rfl ?_
                                              refine EL_nil ?_
                                              refine CE_seq ?_
                                              refine CE_seq ?_
                                              refine CE_reg ?_
                                              refine EL_p (Pu_mv rfl) rfl ?_
                                              refine EL_p (Pu_lss rfl rfl) rfl ?_
                                              refine EL_p (Pu_mv rfl) rfl ?_
                                              refine EL_gP rfl rfl (fun g346 => ?_) (fun g346 => ?_)
                                              · omega --stop
                                              · refine EL_yes rfl rfl ?_
                                                refine EL_p (Pu_mv rfl) rfl ?_
                                                refine EL_yes rfl rfl ?_
                                                refine EL_p (Pu_cnv rfl in21 in3 (w64 (by omega))) rfl ?_
                                                refine EL_yes rfl rfl ?_
                                                refine EL_p (Pu_mv rfl) rfl ?_
                                                refine EL_yes rfl rfl ?_
                                                refine EL_p (Pu_len rfl sl24 rfl) rfl ?_
                                                refine EL_yes rfl rfl ?_
                                                refine EL_p (Pu_gtr rfl rfl) rfl ?_
                                                refine EL_p (Pu_pf rfl rfl) rfl ?_
                                                refine EL_p (Pu_mv rfl) rfl ?_
                                                refine EL_gP rfl rfl (fun g353 => ?_) (fun g353 => ?_)
                                                · omega --stop
                                                · refine EL_yes rfl rfl ?_
                                                  refine EL_p (Pu_mv rfl) rfl ?_
                                                  refine EL_yes rfl rfl ?_
                                                  refine EL_p (Pu_lss rfl rfl) rfl ?_
                                                  refine EL_p (Pu_pf rfl rfl) rfl ?_
                                                  refine EL_p (Pu_mv rfl) rfl ?_
                                                  refine EL_gP rfl rfl (fun g357 => ?_) (fun g357 => ?_)
                                                  · omega --stop
                                                  · refine EL_yes rfl rfl ?_
                                                    refine EL_p (Pu_mv rfl) rfl ?_
                                                    refine EL_yes rfl rfl ?_
                                                    refine EL_p (Pu_cnv rfl in21 in3 (w64 (by omega))) rfl ?_
                                                    refine EL_yes rfl rfl ?_
                                                    refine EL_p (Pu_mv rfl) rfl ?_
                                                    refine EL_yes rfl rfl ?_
                                                    refine EL_p (Pu_len rfl sl24 rfl) rfl ?_
                                                    refine EL_yes rfl rfl ?_
                                                    refine EL_p (Pu_gtr rfl rfl) rfl ?_
                                                    refine EL_p (Pu_pf rfl rfl) rfl ?_
                                                    refine EL_p (Pu_mv rfl) rfl ?_
                                                    refine EL_gP rfl rfl (fun g364 => ?_) (fun g364 => ?_)
                                                    · omega --stop
                                                    · refine EL_yes rfl rfl ?_
                                                      refine EL_p (Pu_mv rfl) rfl ?_
                                                      refine EL_yes rfl rfl ?_
                                                      refine EL_p (Pu_lss rfl rfl) rfl ?_
                                                      refine EL_p (Pu_pf rfl rfl) rfl ?_
                                                      refine EL_p (Pu_mv rfl) rfl ?_
                                                      refine EL_gP rfl rfl (fun g368 => ?_) (fun g368 => ?_)
                                                      · omega --stop
                                                      · refine EL_yes rfl rfl ?_
                                                        refine EL_p (Pu_mv rfl) rfl ?_
                                                        refine EL_yes rfl rfl ?_
                                                        refine EL_p (Pu_cnv rfl in21 in3 (w64 (by omega))) rfl ?_
                                                        refine EL_yes rfl rfl ?_
                                                        refine EL_p (Pu_mv rfl) rfl ?_
                                                        refine EL_yes rfl rfl ?_
                                                        refine EL_p (Pu_len rfl sl24 rfl) rfl ?_
                                                        refine EL_yes rfl rfl ?_
                                                        refine EL_p (Pu_gtr rfl rfl) rfl ?_
                                                        refine EL_p (Pu_pf rfl rfl) rfl ?_
                                                        refine EL_p (Pu_mv rfl) rfl ?_
                                                        refine EL_gP rfl rfl (fun g375 => ?_) (fun g375 => ?_)
                                                        · omega --stop
                                                        · refine EL_yes rfl rfl ?_
                                                          refine EL_p (Pu_mv rfl) rfl ?_
                                                          refine EL_yes rfl rfl ?_
                                                          refine EL_p (Pu_lss rfl rfl) rfl ?_
                                                          refine EL_p (Pu_pf rfl rfl) rfl ?_
                                                          refine EL_p (Pu_mv rfl) rfl ?_
                                                          refine EL_gP rfl rfl (fun g379 => ?_) (fun g379 => ?_)
                                                          · omega --stop
                                                          · refine EL_yes rfl rfl ?_
                                                            refine EL_p (Pu_mv rfl) rfl ?_
                                                            refine EL_yes rfl rfl ?_
                                                            refine EL_p (Pu_cnv rfl in21 in3 (w64 (by omega))) rfl ?_
                                                            refine EL_yes rfl rfl ?_
                                                            refine EL_p (Pu_mv rfl) rfl ?_
                                                            refine EL_yes rfl rfl ?_
                                                            refine EL_p (Pu_len rfl sl24 rfl) rfl ?_
                                                            refine EL_yes rfl rfl ?_
                                                            refine EL_p (Pu_gtr rfl rfl) rfl ?_
                                                            refine EL_p (Pu_pf rfl rfl) rfl ?_
                                                            refine EL_nil ?_
                                                            refine CE_cP rfl (fun c385 => ?_) (fun c385 => ?_)
                                                            · omega --stop
                                                            · refine CE_skip ?_
                                                              refine CE_seq ?_
                                                              refine CE_seq ?_
                                                              refine CE_reg ?_
                                                              refine EL_p (Pu_mv rfl) rfl ?_
                                                              refine EL_p (Pu_len rfl sl24 rfl) rfl ?_
                                                              refine EL_p (Pu_mv rfl) rfl ?_
                                                              refine EL_nil ?_
                                                              refine CE_block ?_
                                                              refine CE_loop (fun (k : Nat) w' => k ≤ (s.G.Ra x).len ∧ HP w w' (Blk qpr s.h.nt (fun u => .bool (false)) :: Blk qsu s.h.nt (fun u => .bool (false)) :: Blk qlw s.h.nt (fun u => .int .i64 (-1)) :: Blk qla s.h.nt (fun u => .int .i64 (-1)) :: Blk qfw s.h.nt (fun u => .int .i64 (-1)) :: Blk qfa s.h.nt (fun u => .int .i64 (-1)) :: (Blk qd s.h.nt (fun u => .int .i64 ((xsF s.h u (s.h.n)).length : Int)) :: M))) (fun k => [(0, aval s.B.z0 s.B.b0 s.h.n), (2, aval s.h.zt s.h.bt s.h.n), (3, aval s.h.zi s.h.bi s.h.n), (4, .int .i64 s.h.m), (5, aval s.h.za s.h.ba s.h.nt), (16, .pointer (some ⟨s.B.gb, 0, none⟩)), (17, .int .i64 s.h.n), (18, .int .i64 s.h.nt), (19, .slice (some ⟨qd, 0, none⟩) s.h.nt s.h.nt), (25, .slice (some ⟨s.B.ab, 0, none⟩) s.h.m s.h.m), (26, .slice (some ⟨s.B.wb, 0, none⟩) s.h.m s.h.m), (27, .slice (some ⟨qfa, 0, none⟩) s.h.nt s.h.nt), (28, .slice (some ⟨qfw, 0, none⟩) s.h.nt s.h.nt), (29, .slice (some ⟨qla, 0, none⟩) s.h.nt s.h.nt), (30, .slice (some ⟨qlw, 0, none⟩) s.h.nt s.h.nt), (32, .slice (some ⟨qsu, 0, none⟩) s.h.nt s.h.nt), (33, .slice (some ⟨qpr, 0, none⟩) s.h.nt s.h.nt), (34, .int .i64 t), (35, .int .i64 ((xsF s.h t s.h.n).length : Int)), (36, .int .i64 i), (37, .int .i32 x), (38, .int .i32 sa), (39, .int .i32 sw), (40, .int .i32 pa), (41, .int .i32 pw), (54, (s.G.Ra x).val), (55, (s.G.Rw x).val), (386, (s.G.Ra x).val), (387, .int .i64 (s.G.Ra x).len), (388, .int .i64 k)]) (fun k => (s.G.Ra x).len - k) 0 ⟨Nat.zero_le _, H40⟩ ⟨rfl, rfl, rfl, rfl, rfl, rfl, rfl, rfl, rfl, rfl, rfl, rfl, rfl, rfl, rfl, rfl, rfl, rfl, rfl, rfl, rfl, rfl, rfl, rfl, rfl, rfl, rfl, rfl, rfl, rfl, trivial⟩ ?_
                                                              rintro k v38 ⟨hk, H41⟩
                                                              refine CE_seq ?_
                                                              refine CE_reg ?_
                                                              refine EL_p (Pu_lss rfl rfl) rfl ?_
                                                              refine EL_nil ?_
                                                              refine CE_seq ?_
                                                              refine CE_cP rfl (fun c389 => ?_) (fun c389 => ?_)
                                                              · have hkl : k < (s.G.Ra x).len := by omega
                                                                have hkl2 : k < (accF s.h x s.h.n).length := by omega
                                                                have hul := acc_lt ho hkl2
                                                                refine Exists.elim (H41.rblkM gmA.fa hitem (by omega)) (fun rb hrr => ?_)
                                                                have hrb := hrr.1
                                                                have hrv := hrr.2
                                                                refine CE_skip ?_
                                                                refine CE_seq ?_
                                                                refine CE_block ?_
                                                                refine CE_seq ?_
                                                                refine CE_reg ?_
                                                                refine EL_p (Pu_ix (congrArg some hrv) rfl sl24 rfl hkl) rfl ?_
                                                                refine EL_ld rfl fl21 ((H41.rcellM gmA.fa hitem hrb (i := k) (by omega)).trans (congrArg some (hacc.c k hkl2))) rfl ?_
                                                                refine EL_p (Pu_as rfl) rfl ?_
                                                                refine EL_nil ?_
                                                                refine CE_seq ?_
                                                                refine CE_reg ?_
                                                                refine EL_p (Pu_mv rfl) rfl ?_
                                                                refine EL_p (Pu_lss rfl rfl) rfl ?_
                                                                refine EL_p (Pu_mv rfl) rfl ?_
                                                                refine EL_gP rfl rfl (fun g394 => ?_) (fun g394 => ?_)
                                                                · omega --stop
                                                                · refine EL_yes rfl rfl ?_
                                                                  refine EL_p (Pu_mv rfl) rfl ?_
                                                                  refine EL_yes rfl rfl ?_
                                                                  refine EL_p (Pu_cnv rfl in21 in3 (w64 (by omega))) rfl ?_
                                                                  refine EL_yes rfl rfl ?_
                                                                  refine EL_p (Pu_mv rfl) rfl ?_
                                                                  refine EL_yes rfl rfl ?_
                                                                  refine EL_p (Pu_geq rfl rfl) rfl ?_
                                                                  refine EL_p (Pu_pf rfl rfl) rfl ?_
                                                                  refine EL_nil ?_
                                                                  refine CE_cP rfl (fun c399 => ?_) (fun c399 => ?_)
                                                                  · omega --stop
                                                                  · refine CE_skip ?_
                                                                    refine CE_reg ?_
                                                                    refine EL_p (Pu_add rfl rfl (w64 (by omega))) rfl ?_
                                                                    refine EL_p (Pu_mv rfl) rfl ?_
                                                                    refine EL_nil ?_
                                                                    exact ⟨k + 1, by omega, ⟨rfl, rfl, rfl, rfl, rfl, rfl, rfl, rfl, rfl, rfl, rfl, rfl, rfl, rfl, rfl, rfl, rfl, rfl, rfl, rfl, rfl, rfl, rfl, rfl, rfl, rfl, rfl, rfl, rfl, rfl, trivial⟩, hkl, H41⟩
                                                              · refine CE_exit ?_
                                                                refine CE_seq ?_
                                                                refine CE_seq ?_
                                                                refine CE_reg ?_
                                                                refine EL_p (Pu_mv rfl) rfl ?_
                                                                refine EL_p (Pu_len rfl sl24 rfl) rfl ?_
                                                                refine EL_p (Pu_mv rfl) rfl ?_
                                                                refine EL_nil ?_
                                                                refine CE_block ?_
                                                                refine CE_loop (fun (k : Nat) w' => k ≤ (s.G.Rw x).len ∧ HP w w' (Blk qpr s.h.nt (fun u => .bool (false)) :: Blk qsu s.h.nt (fun u => .bool (false)) :: Blk qlw s.h.nt (fun u => .int .i64 (-1)) :: Blk qla s.h.nt (fun u => .int .i64 (-1)) :: Blk qfw s.h.nt (fun u => .int .i64 (-1)) :: Blk qfa s.h.nt (fun u => .int .i64 (-1)) :: (Blk qd s.h.nt (fun u => .int .i64 ((xsF s.h u (s.h.n)).length : Int)) :: M))) (fun k => [(0, aval s.B.z0 s.B.b0 s.h.n), (2, aval s.h.zt s.h.bt s.h.n), (3, aval s.h.zi s.h.bi s.h.n), (4, .int .i64 s.h.m), (5, aval s.h.za s.h.ba s.h.nt), (16, .pointer (some ⟨s.B.gb, 0, none⟩)), (17, .int .i64 s.h.n), (18, .int .i64 s.h.nt), (19, .slice (some ⟨qd, 0, none⟩) s.h.nt s.h.nt), (25, .slice (some ⟨s.B.ab, 0, none⟩) s.h.m s.h.m), (26, .slice (some ⟨s.B.wb, 0, none⟩) s.h.m s.h.m), (27, .slice (some ⟨qfa, 0, none⟩) s.h.nt s.h.nt), (28, .slice (some ⟨qfw, 0, none⟩) s.h.nt s.h.nt), (29, .slice (some ⟨qla, 0, none⟩) s.h.nt s.h.nt), (30, .slice (some ⟨qlw, 0, none⟩) s.h.nt s.h.nt), (32, .slice (some ⟨qsu, 0, none⟩) s.h.nt s.h.nt), (33, .slice (some ⟨qpr, 0, none⟩) s.h.nt s.h.nt), (34, .int .i64 t), (35, .int .i64 ((xsF s.h t s.h.n).length : Int)), (36, .int .i64 i), (37, .int .i32 x), (38, .int .i32 sa), (39, .int .i32 sw), (40, .int .i32 pa), (41, .int .i32 pw), (54, (s.G.Ra x).val), (55, (s.G.Rw x).val), (401, (s.G.Rw x).val), (402, .int .i64 (s.G.Rw x).len), (403, .int .i64 k)]) (fun k => (s.G.Rw x).len - k) 0 ⟨Nat.zero_le _, H41⟩ ⟨rfl, rfl, rfl, rfl, rfl, rfl, rfl, rfl, rfl, rfl, rfl, rfl, rfl, rfl, rfl, rfl, rfl, rfl, rfl, rfl, rfl, rfl, rfl, rfl, rfl, rfl, rfl, rfl, rfl, rfl, trivial⟩ ?_
                                                                rintro k v39 ⟨hk, H42⟩
                                                                refine CE_seq ?_
                                                                refine CE_reg ?_
                                                                refine EL_p (Pu_lss rfl rfl) rfl ?_
                                                                refine EL_nil ?_
                                                                refine CE_seq ?_
                                                                refine CE_cP rfl (fun c404 => ?_) (fun c404 => ?_)
                                                                · have hkl : k < (s.G.Rw x).len := by omega
                                                                  have hkl2 : k < (wrsF s.h x s.h.n).length := by omega
                                                                  have hul := wrs_lt ho hkl2
                                                                  refine Exists.elim (H42.rblkM gmA.fw hitem (by omega)) (fun rb hrr => ?_)
                                                                  have hrb := hrr.1
                                                                  have hrv := hrr.2
                                                                  refine CE_skip ?_
                                                                  refine CE_seq ?_
                                                                  refine CE_block ?_
                                                                  refine CE_seq ?_
                                                                  refine CE_reg ?_
                                                                  refine EL_p (Pu_ix (congrArg some hrv) rfl sl24 rfl hkl) rfl ?_
                                                                  refine EL_ld rfl fl21 ((H42.rcellM gmA.fw hitem hrb (i := k) (by omega)).trans (congrArg some (hwrs.c k hkl2))) rfl ?_
                                                                  refine EL_p (Pu_as rfl) rfl ?_
                                                                  refine EL_nil ?_
                                                                  refine CE_seq ?_
                                                                  refine CE_reg ?_
                                                                  refine EL_p (Pu_mv rfl) rfl ?_
                                                                  refine EL_p (Pu_lss rfl rfl) rfl ?_
                                                                  refine EL_p (Pu_mv rfl) rfl ?_
                                                                  refine EL_gP rfl rfl (fun g409 => ?_) (fun g409 => ?_)
                                                                  · omega --stop
                                                                  · refine EL_yes rfl rfl ?_
                                                                    refine EL_p (Pu_mv rfl) rfl ?_
                                                                    refine EL_yes rfl rfl ?_
                                                                    refine EL_p (Pu_cnv rfl in21 in3 (w64 (by omega))) rfl ?_
                                                                    refine EL_yes rfl rfl ?_
                                                                    refine EL_p (Pu_mv rfl) rfl ?_
                                                                    refine EL_yes rfl rfl ?_
                                                                    refine EL_p (Pu_geq rfl rfl) rfl ?_
                                                                    refine EL_p (Pu_pf rfl rfl) rfl ?_
                                                                    refine EL_nil ?_
                                                                    refine CE_cP rfl (fun c414 => ?_) (fun c414 => ?_)
                                                                    · omega --stop
                                                                    · refine CE_skip ?_
                                                                      refine CE_reg ?_
                                                                      refine EL_p (Pu_add rfl rfl (w64 (by omega))) rfl ?_
                                                                      refine EL_p (Pu_mv rfl) rfl ?_
                                                                      refine EL_nil ?_
                                                                      exact ⟨k + 1, by omega, ⟨rfl, rfl, rfl, rfl, rfl, rfl, rfl, rfl, rfl, rfl, rfl, rfl, rfl, rfl, rfl, rfl, rfl, rfl, rfl, rfl, rfl, rfl, rfl, rfl, rfl, rfl, rfl, rfl, rfl, rfl, trivial⟩, hkl, H42⟩
                                                                · refine CE_exit ?_
                                                                  refine CE_seq ?_
                                                                  refine CE_seq ?_
                                                                  refine CE_reg ?_
                                                                  refine EL_p (Pu_as rfl) rfl ?_
                                                                  refine EL_nil ?_
                                                                  refine CE_block ?_
                                                                  have H43 : HP w v39 (Blk qpr s.h.nt (fun u => .bool (false)) :: Blk qsu s.h.nt (fun u => .bool (false)) :: Blk qlw s.h.nt (fun u => .int .i64 (lstP (twB s.h x u) (0))) :: Blk qla s.h.nt (fun u => .int .i64 (lstP (taB s.h x u) (0))) :: Blk qfw s.h.nt (fun u => .int .i64 (fstP (twB s.h x u) (0))) :: Blk qfa s.h.nt (fun u => .int .i64 (fstP (taB s.h x u) (0))) :: (Blk qd s.h.nt (fun u => .int .i64 ((xsF s.h u (s.h.n)).length : Int)) :: M)) := H42
                                                                  refine CE_loop (fun (q : Nat) w' => q ≤ s.h.n ∧ HP w w' (Blk qpr s.h.nt (fun u => .bool (false)) :: Blk qsu s.h.nt (fun u => .bool (false)) :: Blk qlw s.h.nt (fun u => .int .i64 (lstP (twB s.h x u) (q))) :: Blk qla s.h.nt (fun u => .int .i64 (lstP (taB s.h x u) (q))) :: Blk qfw s.h.nt (fun u => .int .i64 (fstP (twB s.h x u) (q))) :: Blk qfa s.h.nt (fun u => .int .i64 (fstP (taB s.h x u) (q))) :: (Blk qd s.h.nt (fun u => .int .i64 ((xsF s.h u (s.h.n)).length : Int)) :: M))) (fun q => [(0, aval s.B.z0 s.B.b0 s.h.n), (2, aval s.h.zt s.h.bt s.h.n), (3, aval s.h.zi s.h.bi s.h.n), (4, .int .i64 s.h.m), (5, aval s.h.za s.h.ba s.h.nt), (16, .pointer (some ⟨s.B.gb, 0, none⟩)), (17, .int .i64 s.h.n), (18, .int .i64 s.h.nt), (19, .slice (some ⟨qd, 0, none⟩) s.h.nt s.h.nt), (25, .slice (some ⟨s.B.ab, 0, none⟩) s.h.m s.h.m), (26, .slice (some ⟨s.B.wb, 0, none⟩) s.h.m s.h.m), (27, .slice (some ⟨qfa, 0, none⟩) s.h.nt s.h.nt), (28, .slice (some ⟨qfw, 0, none⟩) s.h.nt s.h.nt), (29, .slice (some ⟨qla, 0, none⟩) s.h.nt s.h.nt), (30, .slice (some ⟨qlw, 0, none⟩) s.h.nt s.h.nt), (32, .slice (some ⟨qsu, 0, none⟩) s.h.nt s.h.nt), (33, .slice (some ⟨qpr, 0, none⟩) s.h.nt s.h.nt), (34, .int .i64 t), (35, .int .i64 ((xsF s.h t s.h.n).length : Int)), (36, .int .i64 i), (37, .int .i32 x), (38, .int .i32 sa), (39, .int .i32 sw), (40, .int .i32 pa), (41, .int .i32 pw), (54, (s.G.Ra x).val), (55, (s.G.Rw x).val), (60, .int .i64 q)]) (fun q => s.h.n - q) 0 ⟨Nat.zero_le _, H43⟩ ⟨rfl, rfl, rfl, rfl, rfl, rfl, rfl, rfl, rfl, rfl, rfl, rfl, rfl, rfl, rfl, rfl, rfl, rfl, rfl, rfl, rfl, rfl, rfl, rfl, rfl, rfl, rfl, rfl, trivial⟩ ?_
                                                                  clear H43
                                                                  rintro q v40 ⟨hq9, H43⟩
                                                                  have gmM : GM s.h s.G s.B (Blk qpr s.h.nt (fun u => .bool (false)) :: Blk qsu s.h.nt (fun u => .bool (false)) :: Blk qlw s.h.nt (fun u => .int .i64 (lstP (twB s.h x u) (q))) :: Blk qla s.h.nt (fun u => .int .i64 (lstP (taB s.h x u) (q))) :: Blk qfw s.h.nt (fun u => .int .i64 (fstP (twB s.h x u) (q))) :: Blk qfa s.h.nt (fun u => .int .i64 (fstP (taB s.h x u) (q))) :: (Blk qd s.h.nt (fun u => .int .i64 ((xsF s.h u (s.h.n)).length : Int)) :: M)) := (((((((gm.cons _).cons _).cons _).cons _).cons _).cons _).cons _)
                                                                  refine CE_seq ?_
                                                                  refine CE_seq ?_
                                                                  refine CE_reg ?_
                                                                  refine EL_p (Pu_mv rfl) rfl ?_
                                                                  refine EL_p (Pu_mv rfl) rfl ?_
                                                                  refine EL_p (Pu_lss rfl rfl) rfl ?_
                                                                  refine EL_nil ?_
                                                                  refine CE_cP rfl (fun c418 => ?_) (fun c418 => ?_)
                                                                  · have hqn : q < s.h.n := by omega
                                                                    have hTq := (ho.ok q hqn).1
                                                                    refine CE_skip ?_
                                                                    refine CE_seq ?_
                                                                    refine CE_block ?_
                                                                    refine CE_seq ?_
                                                                    refine CE_seq ?_
                                                                    refine CE_reg ?_
                                                                    refine EL_p (Pu_mv rfl) rfl ?_
                                                                    refine EL_p (Pu_mv rfl) rfl ?_
                                                                    first | (refine EL_p (Pu_ixA rfl rfl sl24 rfl hqn (H43.anzM gmM.inl.mi hqn)) rfl ?_) | (refine EL_p (Pu_ixA rfl rfl sl24 rfl hqn (H43.anzM gmM.inl.mt hqn)) rfl ?_) | (refine EL_p (Pu_ixA rfl rfl sl24 rfl hTq (H43.anzM gmM.inl.ma hTq)) rfl ?_)
                                                                    first | (refine EL_ld rfl fl21 (H43.acellM gmM.inl.mi hqn) rfl ?_) | (refine EL_ld rfl fl21 (H43.acellM gmM.inl.mt hqn) rfl ?_) | (refine EL_ld rfl fl21 (H43.acellM gmM.inl.ma hTq) rfl ?_)
                                                                    refine EL_p (Pu_mv rfl) rfl ?_
                                                                    refine EL_p (Pu_neq rfl rfl) rfl ?_
                                                                    refine EL_p (Pu_mv rfl) rfl ?_
                                                                    refine EL_gN rfl rfl (fun g427 => ?_) (fun g427 => ?_)
                                                                    · refine EL_no rfl rfl rfl rfl ?_
                                                                      refine EL_no rfl rfl rfl rfl ?_
                                                                      refine EL_no rfl rfl rfl rfl ?_
                                                                      refine EL_no rfl rfl rfl rfl ?_
                                                                      refine EL_no rfl rfl rfl rfl ?_
                                                                      refine EL_no rfl rfl rfl rfl ?_
                                                                      refine EL_no rfl rfl rfl rfl ?_
                                                                      refine EL_p (Pu_pt rfl rfl) rfl ?_
                                                                      refine EL_nil ?_
                                                                      refine CE_cond_t rfl ?_
                                                                      refine CE_exit ?_
                                                                      refine CE_reg ?_
                                                                      refine EL_p (Pu_mv rfl) rfl ?_
                                                                      refine EL_p (Pu_add rfl rfl (w64 (by omega))) rfl ?_
                                                                      refine EL_p (Pu_as rfl) rfl ?_
                                                                      refine EL_nil ?_
                                                                      have hna : ¬ acB s.h x q = true := fun hh => g427 (acB_iff.1 hh).2
                                                                      have hnw : ¬ awB s.h x q = true := fun hh => hna (aw_ac hh)
                                                                      exact ⟨q + 1, by omega, ⟨rfl, rfl, rfl, rfl, rfl, rfl, rfl, rfl, rfl, rfl, rfl, rfl, rfl, rfl, rfl, rfl, rfl, rfl, rfl, rfl, rfl, rfl, rfl, rfl, rfl, rfl, rfl, rfl, trivial⟩, hqn, (((H43.congr (j := 5) rfl (fun u _ => congrArg (fun z : Int => Value.int .i64 z) ((fa_n hna u).symm))).congr (j := 4) rfl (fun u _ => congrArg (fun z : Int => Value.int .i64 z) ((fw_n hnw u).symm))).congr (j := 3) rfl (fun u _ => congrArg (fun z : Int => Value.int .i64 z) ((la_n hna u).symm))).congr (j := 2) rfl (fun u _ => congrArg (fun z : Int => Value.int .i64 z) ((lw_n hnw u).symm))⟩
                                                                    · refine EL_yes rfl rfl ?_
                                                                      refine EL_p (Pu_mv rfl) rfl ?_
                                                                      refine EL_yes rfl rfl ?_
                                                                      refine EL_p (Pu_mv rfl) rfl ?_
                                                                      refine EL_yes rfl rfl ?_
                                                                      refine EL_p (Pu_mv rfl) rfl ?_
                                                                      refine EL_yes rfl rfl ?_
                                                                      first | (refine EL_p (Pu_ixA rfl rfl sl24 rfl hqn (H43.anzM gmM.inl.mi hqn)) rfl ?_) | (refine EL_p (Pu_ixA rfl rfl sl24 rfl hqn (H43.anzM gmM.inl.mt hqn)) rfl ?_) | (refine EL_p (Pu_ixA rfl rfl sl24 rfl hTq (H43.anzM gmM.inl.ma hTq)) rfl ?_)
                                                                      refine EL_yes rfl rfl ?_
                                                                      first | (refine EL_ld rfl fl21 (H43.acellM gmM.inl.mi hqn) rfl ?_) | (refine EL_ld rfl fl21 (H43.acellM gmM.inl.mt hqn) rfl ?_) | (refine EL_ld rfl fl21 (H43.acellM gmM.inl.ma hTq) rfl ?_)
                                                                      refine EL_yes rfl rfl ?_
                                                                      first | (refine EL_p (Pu_ixA rfl rfl sl25 rfl hqn (H43.anzM gmM.inl.mi hqn)) rfl ?_) | (refine EL_p (Pu_ixA rfl rfl sl25 rfl hqn (H43.anzM gmM.inl.mt hqn)) rfl ?_) | (refine EL_p (Pu_ixA rfl rfl sl25 rfl hTq (H43.anzM gmM.inl.ma hTq)) rfl ?_)
                                                                      refine EL_yes rfl rfl ?_
                                                                      first | (refine EL_ld rfl fl4 (H43.acellM gmM.inl.mi hqn) rfl ?_) | (refine EL_ld rfl fl4 (H43.acellM gmM.inl.mt hqn) rfl ?_) | (refine EL_ld rfl fl4 (H43.acellM gmM.inl.ma hTq) rfl ?_)
                                                                      refine EL_p (Pu_pf rfl rfl) rfl ?_
                                                                      refine EL_nil ?_
                                                                      refine CE_cond rfl (fun c435 => ?_) (fun c435 => ?_)
                                                                      · refine CE_exit ?_
                                                                        refine CE_reg ?_
                                                                        refine EL_p (Pu_mv rfl) rfl ?_
                                                                        refine EL_p (Pu_add rfl rfl (w64 (by omega))) rfl ?_
                                                                        refine EL_p (Pu_as rfl) rfl ?_
                                                                        refine EL_nil ?_
                                                                        have hna : ¬ acB s.h x q = true := fun hh => by
                                                                          have := lvB_B (acB_iff.1 hh).1
                                                                          rw [this] at c435
                                                                          cases c435
                                                                        have hnw : ¬ awB s.h x q = true := fun hh => hna (aw_ac hh)
                                                                        exact ⟨q + 1, by omega, ⟨rfl, rfl, rfl, rfl, rfl, rfl, rfl, rfl, rfl, rfl, rfl, rfl, rfl, rfl, rfl, rfl, rfl, rfl, rfl, rfl, rfl, rfl, rfl, rfl, rfl, rfl, rfl, rfl, trivial⟩, hqn, (((H43.congr (j := 5) rfl (fun u _ => congrArg (fun z : Int => Value.int .i64 z) ((fa_n hna u).symm))).congr (j := 4) rfl (fun u _ => congrArg (fun z : Int => Value.int .i64 z) ((fw_n hnw u).symm))).congr (j := 3) rfl (fun u _ => congrArg (fun z : Int => Value.int .i64 z) ((la_n hna u).symm))).congr (j := 2) rfl (fun u _ => congrArg (fun z : Int => Value.int .i64 z) ((lw_n hnw u).symm))⟩
                                                                      · have hac : acB s.h x q = true := acB_iff.2 ⟨lvB_yes (by omega) c435, g427⟩
                                                                        refine CE_skip ?_
                                                                        refine CE_seq ?_
                                                                        refine CE_reg ?_
                                                                        refine EL_p (Pu_mv rfl) rfl ?_
                                                                        refine EL_p (Pu_mv rfl) rfl ?_
                                                                        refine EL_p (Pu_ixA rfl rfl sl24 rfl hqn (H43.anzM gmM.inl.mt hqn)) rfl ?_
                                                                        refine EL_ld rfl fl21 (H43.acellM gmM.inl.mt hqn) rfl ?_
                                                                        refine EL_p (Pu_as rfl) rfl ?_
                                                                        refine EL_nil ?_
                                                                        refine CE_midI ([(0, aval s.B.z0 s.B.b0 s.h.n), (2, aval s.h.zt s.h.bt s.h.n), (3, aval s.h.zi s.h.bi s.h.n), (4, .int .i64 s.h.m), (5, aval s.h.za s.h.ba s.h.nt), (16, .pointer (some ⟨s.B.gb, 0, none⟩)), (17, .int .i64 s.h.n), (18, .int .i64 s.h.nt), (19, .slice (some ⟨qd, 0, none⟩) s.h.nt s.h.nt), (25, .slice (some ⟨s.B.ab, 0, none⟩) s.h.m s.h.m), (26, .slice (some ⟨s.B.wb, 0, none⟩) s.h.m s.h.m), (27, .slice (some ⟨qfa, 0, none⟩) s.h.nt s.h.nt), (28, .slice (some ⟨qfw, 0, none⟩) s.h.nt s.h.nt), (29, .slice (some ⟨qla, 0, none⟩) s.h.nt s.h.nt), (30, .slice (some ⟨qlw, 0, none⟩) s.h.nt s.h.nt), (32, .slice (some ⟨qsu, 0, none⟩) s.h.nt s.h.nt), (33, .slice (some ⟨qpr, 0, none⟩) s.h.nt s.h.nt), (34, .int .i64 t), (35, .int .i64 ((xsF s.h t s.h.n).length : Int)), (36, .int .i64 i), (37, .int .i32 x), (38, .int .i32 sa), (39, .int .i32 sw), (40, .int .i32 pa), (41, .int .i32 pw), (54, (s.G.Ra x).val), (55, (s.G.Rw x).val), (60, .int .i64 q), (61, .int .i32 (s.h.T q))]) (fun w' => HP w w' (Blk qpr s.h.nt (fun u => .bool (false)) :: Blk qsu s.h.nt (fun u => .bool (false)) :: Blk qlw s.h.nt (fun u => .int .i64 (lstP (twB s.h x u) (q))) :: Blk qla s.h.nt (fun u => .int .i64 (lstP (taB s.h x u) (q))) :: Blk qfw s.h.nt (fun u => .int .i64 (fstP (twB s.h x u) (q))) :: Blk qfa s.h.nt (fun u => .int .i64 (fstP (taB s.h x u) (q + 1))) :: (Blk qd s.h.nt (fun u => .int .i64 ((xsF s.h u (s.h.n)).length : Int)) :: M))) ?_ (fun v41 H44 => ?_)
                                                                        · refine CE_seq ?_
                                                                          refine CE_reg ?_
                                                                          refine EL_p (Pu_mv rfl) rfl ?_
                                                                          refine EL_p (Pu_mv rfl) rfl ?_
                                                                          refine EL_p (Pu_ix rfl rfl sl23 rfl hTq) rfl ?_
                                                                          refine EL_ld rfl fl3 (H43.cell (j := 5) rfl hTq) rfl ?_
                                                                          refine EL_p (Pu_lss rfl rfl) rfl ?_
                                                                          refine EL_nil ?_
                                                                          refine CE_cP rfl (fun c444 => ?_) (fun c444 => ?_)
                                                                          · refine CE_reg ?_
                                                                            refine EL_p (Pu_mv rfl) rfl ?_
                                                                            refine EL_p (Pu_mv rfl) rfl ?_
                                                                            refine EL_p (Pu_mv rfl) rfl ?_
                                                                            refine EL_p (Pu_ix rfl rfl sl23 rfl hTq) rfl ?_
                                                                            refine EL_L0 (Lo_st (j := 5) (i := s.h.T q) H43 rfl rfl rfl fl3 rfl hTq (fun v42 H45 => ?_))
                                                                            refine EL_nil ?_
                                                                            exact ⟨H45.congr (j := 5) rfl (setI (fa_y hac c444)), rfl, rfl, rfl, rfl, rfl, rfl, rfl, rfl, rfl, rfl, rfl, rfl, rfl, rfl, rfl, rfl, rfl, rfl, rfl, rfl, rfl, rfl, rfl, rfl, rfl, rfl, rfl, rfl, rfl, trivial⟩
                                                                          · refine CE_skip ?_
                                                                            exact ⟨H43.congr (j := 5) rfl (fun u _ => congrArg (fun z : Int => Value.int .i64 z) ((fa_k hac c444 u).symm)), rfl, rfl, rfl, rfl, rfl, rfl, rfl, rfl, rfl, rfl, rfl, rfl, rfl, rfl, rfl, rfl, rfl, rfl, rfl, rfl, rfl, rfl, rfl, rfl, rfl, rfl, rfl, rfl, rfl, trivial⟩
                                                                        refine CE_seq ?_
                                                                        refine CE_reg ?_
                                                                        refine EL_p (Pu_mv rfl) rfl ?_
                                                                        refine EL_p (Pu_mv rfl) rfl ?_
                                                                        refine EL_p (Pu_mv rfl) rfl ?_
                                                                        refine EL_p (Pu_ix rfl rfl sl23 rfl hTq) rfl ?_
                                                                        refine EL_L0 (Lo_st (j := 3) (i := s.h.T q) H44 rfl rfl rfl fl3 rfl hTq (fun v43 H46 => ?_))
                                                                        have H47 : HP w v43 (Blk qpr s.h.nt (fun u => .bool (false)) :: Blk qsu s.h.nt (fun u => .bool (false)) :: Blk qlw s.h.nt (fun u => .int .i64 (lstP (twB s.h x u) (q))) :: Blk qla s.h.nt (fun u => .int .i64 (lstP (taB s.h x u) (q + 1))) :: Blk qfw s.h.nt (fun u => .int .i64 (fstP (twB s.h x u) (q))) :: Blk qfa s.h.nt (fun u => .int .i64 (fstP (taB s.h x u) (q + 1))) :: (Blk qd s.h.nt (fun u => .int .i64 ((xsF s.h u (s.h.n)).length : Int)) :: M)) := H46.congr (j := 3) rfl (setI (la_y hac))
                                                                        have gmN : GM s.h s.G s.B (Blk qpr s.h.nt (fun u => .bool (false)) :: Blk qsu s.h.nt (fun u => .bool (false)) :: Blk qlw s.h.nt (fun u => .int .i64 (lstP (twB s.h x u) (q))) :: Blk qla s.h.nt (fun u => .int .i64 (lstP (taB s.h x u) (q + 1))) :: Blk qfw s.h.nt (fun u => .int .i64 (fstP (twB s.h x u) (q))) :: Blk qfa s.h.nt (fun u => .int .i64 (fstP (taB s.h x u) (q + 1))) :: (Blk qd s.h.nt (fun u => .int .i64 ((xsF s.h u (s.h.n)).length : Int)) :: M)) := (((((((gm.cons _).cons _).cons _).cons _).cons _).cons _).cons _)
                                                                        refine EL_nil ?_
                                                                        refine CE_seq ?_
                                                                        refine CE_reg ?_
                                                                        refine EL_p (Pu_mv rfl) rfl ?_
                                                                        refine EL_p (Pu_mv rfl) rfl ?_
                                                                        refine EL_p (Pu_ixA rfl rfl sl22 rfl hqn (H47.anzM gmN.act hqn)) rfl ?_
                                                                        refine EL_ld rfl fl5 (H47.acellM gmN.act hqn) rfl ?_
                                                                        refine EL_p (Pu_eql rfl rfl) rfl ?_
                                                                        refine EL_nil ?_
                                                                        refine CE_cP rfl (fun c457 => ?_) (fun c457 => ?_)
                                                                        · have haw : awB s.h x q = true := awB_iff.2 ⟨(acB_iff.1 hac).1, (acB_iff.1 hac).2, c457⟩
                                                                          refine CE_midI ([(0, aval s.B.z0 s.B.b0 s.h.n), (2, aval s.h.zt s.h.bt s.h.n), (3, aval s.h.zi s.h.bi s.h.n), (4, .int .i64 s.h.m), (5, aval s.h.za s.h.ba s.h.nt), (16, .pointer (some ⟨s.B.gb, 0, none⟩)), (17, .int .i64 s.h.n), (18, .int .i64 s.h.nt), (19, .slice (some ⟨qd, 0, none⟩) s.h.nt s.h.nt), (25, .slice (some ⟨s.B.ab, 0, none⟩) s.h.m s.h.m), (26, .slice (some ⟨s.B.wb, 0, none⟩) s.h.m s.h.m), (27, .slice (some ⟨qfa, 0, none⟩) s.h.nt s.h.nt), (28, .slice (some ⟨qfw, 0, none⟩) s.h.nt s.h.nt), (29, .slice (some ⟨qla, 0, none⟩) s.h.nt s.h.nt), (30, .slice (some ⟨qlw, 0, none⟩) s.h.nt s.h.nt), (32, .slice (some ⟨qsu, 0, none⟩) s.h.nt s.h.nt), (33, .slice (some ⟨qpr, 0, none⟩) s.h.nt s.h.nt), (34, .int .i64 t), (35, .int .i64 ((xsF s.h t s.h.n).length : Int)), (36, .int .i64 i), (37, .int .i32 x), (38, .int .i32 sa), (39, .int .i32 sw), (40, .int .i32 pa), (41, .int .i32 pw), (54, (s.G.Ra x).val), (55, (s.G.Rw x).val), (60, .int .i64 q), (61, .int .i32 (s.h.T q))]) (fun w' => HP w w' (Blk qpr s.h.nt (fun u => .bool (false)) :: Blk qsu s.h.nt (fun u => .bool (false)) :: Blk qlw s.h.nt (fun u => .int .i64 (lstP (twB s.h x u) (q))) :: Blk qla s.h.nt (fun u => .int .i64 (lstP (taB s.h x u) (q + 1))) :: Blk qfw s.h.nt (fun u => .int .i64 (fstP (twB s.h x u) (q + 1))) :: Blk qfa s.h.nt (fun u => .int .i64 (fstP (taB s.h x u) (q + 1))) :: (Blk qd s.h.nt (fun u => .int .i64 ((xsF s.h u (s.h.n)).length : Int)) :: M))) ?_ (fun v45 H49 => ?_)
                                                                          · refine CE_seq ?_
                                                                            refine CE_reg ?_
                                                                            refine EL_p (Pu_mv rfl) rfl ?_
                                                                            refine EL_p (Pu_mv rfl) rfl ?_
                                                                            refine EL_p (Pu_ix rfl rfl sl23 rfl hTq) rfl ?_
                                                                            refine EL_ld rfl fl3 (H47.cell (j := 4) rfl hTq) rfl ?_
                                                                            refine EL_p (Pu_lss rfl rfl) rfl ?_
                                                                            refine EL_nil ?_
                                                                            refine CE_cP rfl (fun c462 => ?_) (fun c462 => ?_)
                                                                            · refine CE_reg ?_
                                                                              refine EL_p (Pu_mv rfl) rfl ?_
                                                                              refine EL_p (Pu_mv rfl) rfl ?_
                                                                              refine EL_p (Pu_mv rfl) rfl ?_
                                                                              refine EL_p (Pu_ix rfl rfl sl23 rfl hTq) rfl ?_
                                                                              refine EL_L0 (Lo_st (j := 4) (i := s.h.T q) H47 rfl rfl rfl fl3 rfl hTq (fun v46 H50 => ?_))
                                                                              refine EL_nil ?_
                                                                              exact ⟨H50.congr (j := 4) rfl (setI (fw_y haw c462)), rfl, rfl, rfl, rfl, rfl, rfl, rfl, rfl, rfl, rfl, rfl, rfl, rfl, rfl, rfl, rfl, rfl, rfl, rfl, rfl, rfl, rfl, rfl, rfl, rfl, rfl, rfl, rfl, rfl, trivial⟩
                                                                            · refine CE_skip ?_
                                                                              exact ⟨H47.congr (j := 4) rfl (fun u _ => congrArg (fun z : Int => Value.int .i64 z) ((fw_k haw c462 u).symm)), rfl, rfl, rfl, rfl, rfl, rfl, rfl, rfl, rfl, rfl, rfl, rfl, rfl, rfl, rfl, rfl, rfl, rfl, rfl, rfl, rfl, rfl, rfl, rfl, rfl, rfl, rfl, rfl, rfl, trivial⟩
                                                                          refine CE_reg ?_
                                                                          refine EL_p (Pu_mv rfl) rfl ?_
                                                                          refine EL_p (Pu_mv rfl) rfl ?_
                                                                          refine EL_p (Pu_mv rfl) rfl ?_
                                                                          refine EL_p (Pu_ix rfl rfl sl23 rfl hTq) rfl ?_
                                                                          refine EL_L0 (Lo_st (j := 2) (i := s.h.T q) H49 rfl rfl rfl fl3 rfl hTq (fun v47 H51 => ?_))
                                                                          refine EL_nil ?_
                                                                          refine CE_reg ?_
                                                                          refine EL_p (Pu_mv rfl) rfl ?_
                                                                          refine EL_p (Pu_add rfl rfl (w64 (by omega))) rfl ?_
                                                                          refine EL_p (Pu_as rfl) rfl ?_
                                                                          refine EL_nil ?_
                                                                          exact ⟨q + 1, by omega, ⟨rfl, rfl, rfl, rfl, rfl, rfl, rfl, rfl, rfl, rfl, rfl, rfl, rfl, rfl, rfl, rfl, rfl, rfl, rfl, rfl, rfl, rfl, rfl, rfl, rfl, rfl, rfl, rfl, trivial⟩, hqn, H51.congr (j := 2) rfl (setI (lw_y haw))⟩
                                                                        · refine CE_skip ?_
                                                                          refine CE_reg ?_
                                                                          refine EL_p (Pu_mv rfl) rfl ?_
                                                                          refine EL_p (Pu_add rfl rfl (w64 (by omega))) rfl ?_
                                                                          refine EL_p (Pu_as rfl) rfl ?_
                                                                          refine EL_nil ?_
                                                                          have hnw : ¬ awB s.h x q = true := fun hh => c457 (awB_iff.1 hh).2.2
                                                                          exact ⟨q + 1, by omega, ⟨rfl, rfl, rfl, rfl, rfl, rfl, rfl, rfl, rfl, rfl, rfl, rfl, rfl, rfl, rfl, rfl, rfl, rfl, rfl, rfl, rfl, rfl, rfl, rfl, rfl, rfl, rfl, rfl, trivial⟩, hqn, (H47.congr (j := 4) rfl (fun u _ => congrArg (fun z : Int => Value.int .i64 z) ((fw_n hnw u).symm))).congr (j := 2) rfl (fun u _ => congrArg (fun z : Int => Value.int .i64 z) ((lw_n hnw u).symm))⟩
                                                                  · have hqn : q = s.h.n := by omega
                                                                    subst hqn
                                                                    refine CE_exit ?_
                                                                    refine CE_seq ?_
                                                                    refine CE_seq ?_
                                                                    refine CE_reg ?_
                                                                    refine EL_p (Pu_mv rfl) rfl ?_
                                                                    refine EL_p (Pu_cnv rfl in21 in3 (w64 (by omega))) rfl ?_
                                                                    refine EL_p (Pu_as rfl) rfl ?_
                                                                    refine EL_nil ?_
                                                                    refine CE_block ?_
                                                                    refine CE_loop (fun (k : Nat) w' => sa ≤ k ∧ k ≤ (s.G.Ra x).len ∧ HP w w' (Blk qpr s.h.nt (fun u => .bool (false)) :: Blk qsu s.h.nt (fun u => .bool (mk (fun _ => false) (accF s.h x s.h.n) sa (k) u)) :: Blk qlw s.h.nt (fun u => .int .i64 (lstP (twB s.h x u) (s.h.n))) :: Blk qla s.h.nt (fun u => .int .i64 (lstP (taB s.h x u) (s.h.n))) :: Blk qfw s.h.nt (fun u => .int .i64 (fstP (twB s.h x u) (s.h.n))) :: Blk qfa s.h.nt (fun u => .int .i64 (fstP (taB s.h x u) (s.h.n))) :: (Blk qd s.h.nt (fun u => .int .i64 ((xsF s.h u (s.h.n)).length : Int)) :: M))) (fun k => [(0, aval s.B.z0 s.B.b0 s.h.n), (2, aval s.h.zt s.h.bt s.h.n), (3, aval s.h.zi s.h.bi s.h.n), (4, .int .i64 s.h.m), (5, aval s.h.za s.h.ba s.h.nt), (16, .pointer (some ⟨s.B.gb, 0, none⟩)), (17, .int .i64 s.h.n), (18, .int .i64 s.h.nt), (19, .slice (some ⟨qd, 0, none⟩) s.h.nt s.h.nt), (25, .slice (some ⟨s.B.ab, 0, none⟩) s.h.m s.h.m), (26, .slice (some ⟨s.B.wb, 0, none⟩) s.h.m s.h.m), (27, .slice (some ⟨qfa, 0, none⟩) s.h.nt s.h.nt), (28, .slice (some ⟨qfw, 0, none⟩) s.h.nt s.h.nt), (29, .slice (some ⟨qla, 0, none⟩) s.h.nt s.h.nt), (30, .slice (some ⟨qlw, 0, none⟩) s.h.nt s.h.nt), (32, .slice (some ⟨qsu, 0, none⟩) s.h.nt s.h.nt), (33, .slice (some ⟨qpr, 0, none⟩) s.h.nt s.h.nt), (34, .int .i64 t), (35, .int .i64 ((xsF s.h t s.h.n).length : Int)), (36, .int .i64 i), (37, .int .i32 x), (38, .int .i32 sa), (39, .int .i32 sw), (40, .int .i32 pa), (41, .int .i32 pw), (54, (s.G.Ra x).val), (55, (s.G.Rw x).val), (62, .int .i64 k)]) (fun k => (s.G.Ra x).len - k) sa ⟨Nat.le_refl _, by omega, H43.congr (j := 1) rfl (fun u _ => congrArg (fun z : Bool => Value.bool z) ((mk_start (fun _ => false) _ _ u).symm))⟩ ⟨rfl, rfl, rfl, rfl, rfl, rfl, rfl, rfl, rfl, rfl, rfl, rfl, rfl, rfl, rfl, rfl, rfl, rfl, rfl, rfl, rfl, rfl, rfl, rfl, rfl, rfl, rfl, rfl, trivial⟩ ?_
                                                                    rintro k v48 ⟨hsk, hk, H52⟩
                                                                    have gmS : GM s.h s.G s.B (Blk qpr s.h.nt (fun u => .bool (false)) :: Blk qsu s.h.nt (fun u => .bool (mk (fun _ => false) (accF s.h x s.h.n) sa (k) u)) :: Blk qlw s.h.nt (fun u => .int .i64 (lstP (twB s.h x u) (s.h.n))) :: Blk qla s.h.nt (fun u => .int .i64 (lstP (taB s.h x u) (s.h.n))) :: Blk qfw s.h.nt (fun u => .int .i64 (fstP (twB s.h x u) (s.h.n))) :: Blk qfa s.h.nt (fun u => .int .i64 (fstP (taB s.h x u) (s.h.n))) :: (Blk qd s.h.nt (fun u => .int .i64 ((xsF s.h u (s.h.n)).length : Int)) :: M)) := (((((((gm.cons _).cons _).cons _).cons _).cons _).cons _).cons _)
                                                                    refine CE_seq ?_
                                                                    refine CE_seq ?_
                                                                    refine CE_reg ?_
                                                                    refine EL_p (Pu_mv rfl) rfl ?_
                                                                    refine EL_p (Pu_mv rfl) rfl ?_
                                                                    refine EL_p (Pu_len rfl sl24 rfl) rfl ?_
                                                                    refine EL_p (Pu_lss rfl rfl) rfl ?_
                                                                    refine EL_nil ?_
                                                                    refine CE_cP rfl (fun c476 => ?_) (fun c476 => ?_)
                                                                    · have hkl : k < (s.G.Ra x).len := by omega
                                                                      have hkl2 : k < (accF s.h x s.h.n).length := by omega
                                                                      have hul := acc_lt ho hkl2
                                                                      refine Exists.elim (H52.rblkM gmS.fa hitem (by omega)) (fun rb hrr => ?_)
                                                                      have hrb := hrr.1
                                                                      have hrv := hrr.2
                                                                      refine CE_skip ?_
                                                                      refine CE_seq ?_
                                                                      refine CE_block ?_
                                                                      refine CE_reg ?_
                                                                      refine EL_p (Pu_mv rfl) rfl ?_
                                                                      refine EL_p (Pu_mv rfl) rfl ?_
                                                                      refine EL_p (Pu_mv rfl) rfl ?_
                                                                      first | (refine EL_p (Pu_ix (congrArg some hrv) rfl sl24 rfl hkl) rfl ?_) | (refine EL_p (Pu_ix rfl rfl sl24 rfl hul) rfl ?_)
                                                                      refine EL_ld rfl fl21 ((H52.rcellM gmS.fa hitem hrb (i := k) (by omega)).trans (congrArg some (hacc.c k hkl2))) rfl ?_
                                                                      first | (refine EL_p (Pu_ix (congrArg some hrv) rfl sl25 rfl hkl) rfl ?_) | (refine EL_p (Pu_ix rfl rfl sl25 rfl hul) rfl ?_)
                                                                      refine EL_L0 (Lo_st (j := 1) (i := (accF s.h x s.h.n).getD k 0) H52 rfl rfl rfl fl4 rfl hul (fun v49 H53 => ?_))
                                                                      refine EL_nil ?_
                                                                      refine CE_reg ?_
                                                                      refine EL_p (Pu_mv rfl) rfl ?_
                                                                      refine EL_p (Pu_add rfl rfl (w64 (by omega))) rfl ?_
                                                                      refine EL_p (Pu_as rfl) rfl ?_
                                                                      refine EL_nil ?_
                                                                      exact ⟨k + 1, by omega, ⟨rfl, rfl, rfl, rfl, rfl, rfl, rfl, rfl, rfl, rfl, rfl, rfl, rfl, rfl, rfl, rfl, rfl, rfl, rfl, rfl, rfl, rfl, rfl, rfl, rfl, rfl, rfl, rfl, trivial⟩, by omega, hkl, H53.congr (j := 1) rfl (setB (mk_yes hsk))⟩
                                                                    · have hke : k = (accF s.h x s.h.n).length := by omega
                                                                      subst hke
                                                                      refine CE_exit ?_
                                                                      refine CE_seq ?_
                                                                      refine CE_seq ?_
                                                                      refine CE_reg ?_
                                                                      refine EL_p (Pu_mv rfl) rfl ?_
                                                                      refine EL_p (Pu_cnv rfl in21 in3 (w64 (by omega))) rfl ?_
                                                                      refine EL_p (Pu_as rfl) rfl ?_
                                                                      refine EL_nil ?_
                                                                      refine CE_block ?_
                                                                      refine CE_loop (fun (k : Nat) w' => sw ≤ k ∧ k ≤ (s.G.Rw x).len ∧ HP w w' (Blk qpr s.h.nt (fun u => .bool (false)) :: Blk qsu s.h.nt (fun u => .bool (mk (mk (fun _ => false) (accF s.h x s.h.n) sa (accF s.h x s.h.n).length) (wrsF s.h x s.h.n) sw (k) u)) :: Blk qlw s.h.nt (fun u => .int .i64 (lstP (twB s.h x u) (s.h.n))) :: Blk qla s.h.nt (fun u => .int .i64 (lstP (taB s.h x u) (s.h.n))) :: Blk qfw s.h.nt (fun u => .int .i64 (fstP (twB s.h x u) (s.h.n))) :: Blk qfa s.h.nt (fun u => .int .i64 (fstP (taB s.h x u) (s.h.n))) :: (Blk qd s.h.nt (fun u => .int .i64 ((xsF s.h u (s.h.n)).length : Int)) :: M))) (fun k => [(0, aval s.B.z0 s.B.b0 s.h.n), (2, aval s.h.zt s.h.bt s.h.n), (3, aval s.h.zi s.h.bi s.h.n), (4, .int .i64 s.h.m), (5, aval s.h.za s.h.ba s.h.nt), (16, .pointer (some ⟨s.B.gb, 0, none⟩)), (17, .int .i64 s.h.n), (18, .int .i64 s.h.nt), (19, .slice (some ⟨qd, 0, none⟩) s.h.nt s.h.nt), (25, .slice (some ⟨s.B.ab, 0, none⟩) s.h.m s.h.m), (26, .slice (some ⟨s.B.wb, 0, none⟩) s.h.m s.h.m), (27, .slice (some ⟨qfa, 0, none⟩) s.h.nt s.h.nt), (28, .slice (some ⟨qfw, 0, none⟩) s.h.nt s.h.nt), (29, .slice (some ⟨qla, 0, none⟩) s.h.nt s.h.nt), (30, .slice (some ⟨qlw, 0, none⟩) s.h.nt s.h.nt), (32, .slice (some ⟨qsu, 0, none⟩) s.h.nt s.h.nt), (33, .slice (some ⟨qpr, 0, none⟩) s.h.nt s.h.nt), (34, .int .i64 t), (35, .int .i64 ((xsF s.h t s.h.n).length : Int)), (36, .int .i64 i), (37, .int .i32 x), (38, .int .i32 sa), (39, .int .i32 sw), (40, .int .i32 pa), (41, .int .i32 pw), (54, (s.G.Ra x).val), (55, (s.G.Rw x).val), (63, .int .i64 k)]) (fun k => (s.G.Rw x).len - k) sw ⟨Nat.le_refl _, by omega, H52.congr (j := 1) rfl (fun u _ => congrArg (fun z : Bool => Value.bool z) ((mk_start (mk (fun _ => false) (accF s.h x s.h.n) sa (accF s.h x s.h.n).length) _ _ u).symm))⟩ ⟨rfl, rfl, rfl, rfl, rfl, rfl, rfl, rfl, rfl, rfl, rfl, rfl, rfl, rfl, rfl, rfl, rfl, rfl, rfl, rfl, rfl, rfl, rfl, rfl, rfl, rfl, rfl, rfl, trivial⟩ ?_
                                                                      rintro k v50 ⟨hsk, hk, H54⟩
                                                                      have gmS : GM s.h s.G s.B (Blk qpr s.h.nt (fun u => .bool (false)) :: Blk qsu s.h.nt (fun u => .bool (mk (mk (fun _ => false) (accF s.h x s.h.n) sa (accF s.h x s.h.n).length) (wrsF s.h x s.h.n) sw (k) u)) :: Blk qlw s.h.nt (fun u => .int .i64 (lstP (twB s.h x u) (s.h.n))) :: Blk qla s.h.nt (fun u => .int .i64 (lstP (taB s.h x u) (s.h.n))) :: Blk qfw s.h.nt (fun u => .int .i64 (fstP (twB s.h x u) (s.h.n))) :: Blk qfa s.h.nt (fun u => .int .i64 (fstP (taB s.h x u) (s.h.n))) :: (Blk qd s.h.nt (fun u => .int .i64 ((xsF s.h u (s.h.n)).length : Int)) :: M)) := (((((((gm.cons _).cons _).cons _).cons _).cons _).cons _).cons _)
                                                                      refine CE_seq ?_
                                                                      refine CE_seq ?_
                                                                      refine CE_reg ?_
                                                                      refine EL_p (Pu_mv rfl) rfl ?_
                                                                      refine EL_p (Pu_mv rfl) rfl ?_
                                                                      refine EL_p (Pu_len rfl sl24 rfl) rfl ?_
                                                                      refine EL_p (Pu_lss rfl rfl) rfl ?_
                                                                      refine EL_nil ?_
                                                                      refine CE_cP rfl (fun c490 => ?_) (fun c490 => ?_)
                                                                      · have hkl : k < (s.G.Rw x).len := by omega
                                                                        have hkl2 : k < (wrsF s.h x s.h.n).length := by omega
                                                                        have hul := wrs_lt ho hkl2
                                                                        refine Exists.elim (H54.rblkM gmS.fw hitem (by omega)) (fun rb hrr => ?_)
                                                                        have hrb := hrr.1
                                                                        have hrv := hrr.2
                                                                        refine CE_skip ?_
                                                                        refine CE_seq ?_
                                                                        refine CE_block ?_
                                                                        refine CE_reg ?_
                                                                        refine EL_p (Pu_mv rfl) rfl ?_
                                                                        refine EL_p (Pu_mv rfl) rfl ?_
                                                                        refine EL_p (Pu_mv rfl) rfl ?_
                                                                        first | (refine EL_p (Pu_ix (congrArg some hrv) rfl sl24 rfl hkl) rfl ?_) | (refine EL_p (Pu_ix rfl rfl sl24 rfl hul) rfl ?_)
                                                                        refine EL_ld rfl fl21 ((H54.rcellM gmS.fw hitem hrb (i := k) (by omega)).trans (congrArg some (hwrs.c k hkl2))) rfl ?_
                                                                        first | (refine EL_p (Pu_ix (congrArg some hrv) rfl sl25 rfl hkl) rfl ?_) | (refine EL_p (Pu_ix rfl rfl sl25 rfl hul) rfl ?_)
                                                                        refine EL_L0 (Lo_st (j := 1) (i := (wrsF s.h x s.h.n).getD k 0) H54 rfl rfl rfl fl4 rfl hul (fun v51 H55 => ?_))
                                                                        refine EL_nil ?_
                                                                        refine CE_reg ?_
                                                                        refine EL_p (Pu_mv rfl) rfl ?_
                                                                        refine EL_p (Pu_add rfl rfl (w64 (by omega))) rfl ?_
                                                                        refine EL_p (Pu_as rfl) rfl ?_
                                                                        refine EL_nil ?_
                                                                        exact ⟨k + 1, by omega, ⟨rfl, rfl, rfl, rfl, rfl, rfl, rfl, rfl, rfl, rfl, rfl, rfl, rfl, rfl, rfl, rfl, rfl, rfl, rfl, rfl, rfl, rfl, rfl, rfl, rfl, rfl, rfl, rfl, trivial⟩, by omega, hkl, H55.congr (j := 1) rfl (setB (mk_yes hsk))⟩
                                                                      · have hke : k = (wrsF s.h x s.h.n).length := by omega
                                                                        subst hke
                                                                        refine CE_exit ?_
                                                                        refine CE_seq ?_
                                                                        refine CE_seq ?_
                                                                        refine CE_reg ?_
                                                                        refine EL_p (Pu_as rfl) rfl ?_
                                                                        refine EL_nil ?_
                                                                        refine CE_block ?_
                                                                        refine CE_loop (fun (k : Nat) w' => k ≤ pa ∧ HP w w' (Blk qpr s.h.nt (fun u => .bool (mk (fun _ => false) (accF s.h x s.h.n) 0 (k) u)) :: Blk qsu s.h.nt (fun u => .bool ((mk (mk (fun _ => false) (accF s.h x s.h.n) sa (accF s.h x s.h.n).length) (wrsF s.h x s.h.n) sw (wrsF s.h x s.h.n).length) u)) :: Blk qlw s.h.nt (fun u => .int .i64 (lstP (twB s.h x u) (s.h.n))) :: Blk qla s.h.nt (fun u => .int .i64 (lstP (taB s.h x u) (s.h.n))) :: Blk qfw s.h.nt (fun u => .int .i64 (fstP (twB s.h x u) (s.h.n))) :: Blk qfa s.h.nt (fun u => .int .i64 (fstP (taB s.h x u) (s.h.n))) :: (Blk qd s.h.nt (fun u => .int .i64 ((xsF s.h u (s.h.n)).length : Int)) :: M))) (fun k => [(0, aval s.B.z0 s.B.b0 s.h.n), (2, aval s.h.zt s.h.bt s.h.n), (3, aval s.h.zi s.h.bi s.h.n), (4, .int .i64 s.h.m), (5, aval s.h.za s.h.ba s.h.nt), (16, .pointer (some ⟨s.B.gb, 0, none⟩)), (17, .int .i64 s.h.n), (18, .int .i64 s.h.nt), (19, .slice (some ⟨qd, 0, none⟩) s.h.nt s.h.nt), (25, .slice (some ⟨s.B.ab, 0, none⟩) s.h.m s.h.m), (26, .slice (some ⟨s.B.wb, 0, none⟩) s.h.m s.h.m), (27, .slice (some ⟨qfa, 0, none⟩) s.h.nt s.h.nt), (28, .slice (some ⟨qfw, 0, none⟩) s.h.nt s.h.nt), (29, .slice (some ⟨qla, 0, none⟩) s.h.nt s.h.nt), (30, .slice (some ⟨qlw, 0, none⟩) s.h.nt s.h.nt), (32, .slice (some ⟨qsu, 0, none⟩) s.h.nt s.h.nt), (33, .slice (some ⟨qpr, 0, none⟩) s.h.nt s.h.nt), (34, .int .i64 t), (35, .int .i64 ((xsF s.h t s.h.n).length : Int)), (36, .int .i64 i), (37, .int .i32 x), (38, .int .i32 sa), (39, .int .i32 sw), (40, .int .i32 pa), (41, .int .i32 pw), (54, (s.G.Ra x).val), (55, (s.G.Rw x).val), (64, .int .i64 k)]) (fun k => pa - k) 0 ⟨Nat.zero_le _, H54.congr (j := 0) rfl (fun u _ => congrArg (fun z : Bool => Value.bool z) ((mk_start (fun _ => false) _ 0 u).symm))⟩ ⟨rfl, rfl, rfl, rfl, rfl, rfl, rfl, rfl, rfl, rfl, rfl, rfl, rfl, rfl, rfl, rfl, rfl, rfl, rfl, rfl, rfl, rfl, rfl, rfl, rfl, rfl, rfl, rfl, trivial⟩ ?_
                                                                        rintro k v52 ⟨hk, H56⟩
                                                                        have gmS : GM s.h s.G s.B (Blk qpr s.h.nt (fun u => .bool (mk (fun _ => false) (accF s.h x s.h.n) 0 (k) u)) :: Blk qsu s.h.nt (fun u => .bool ((mk (mk (fun _ => false) (accF s.h x s.h.n) sa (accF s.h x s.h.n).length) (wrsF s.h x s.h.n) sw (wrsF s.h x s.h.n).length) u)) :: Blk qlw s.h.nt (fun u => .int .i64 (lstP (twB s.h x u) (s.h.n))) :: Blk qla s.h.nt (fun u => .int .i64 (lstP (taB s.h x u) (s.h.n))) :: Blk qfw s.h.nt (fun u => .int .i64 (fstP (twB s.h x u) (s.h.n))) :: Blk qfa s.h.nt (fun u => .int .i64 (fstP (taB s.h x u) (s.h.n))) :: (Blk qd s.h.nt (fun u => .int .i64 ((xsF s.h u (s.h.n)).length : Int)) :: M)) := (((((((gm.cons _).cons _).cons _).cons _).cons _).cons _).cons _)
                                                                        refine CE_seq ?_
                                                                        refine CE_seq ?_
                                                                        refine CE_reg ?_
                                                                        refine EL_p (Pu_mv rfl) rfl ?_
                                                                        refine EL_p (Pu_mv rfl) rfl ?_
                                                                        refine EL_p (Pu_cnv rfl in21 in3 (w64 (by omega))) rfl ?_
                                                                        refine EL_p (Pu_lss rfl rfl) rfl ?_
                                                                        refine EL_nil ?_
                                                                        refine CE_cP rfl (fun c502 => ?_) (fun c502 => ?_)
                                                                        · have hkp : k < pa := by omega
                                                                          have hkl : k < (s.G.Ra x).len := by omega
                                                                          have hkl2 : k < (accF s.h x s.h.n).length := by omega
                                                                          have hul := acc_lt ho hkl2
                                                                          refine Exists.elim (H56.rblkM gmS.fa hitem (by omega)) (fun rb hrr => ?_)
                                                                          have hrb := hrr.1
                                                                          have hrv := hrr.2
                                                                          refine CE_skip ?_
                                                                          refine CE_seq ?_
                                                                          refine CE_block ?_
                                                                          refine CE_reg ?_
                                                                          refine EL_p (Pu_mv rfl) rfl ?_
                                                                          refine EL_p (Pu_mv rfl) rfl ?_
                                                                          refine EL_p (Pu_mv rfl) rfl ?_
                                                                          first | (refine EL_p (Pu_ix (congrArg some hrv) rfl sl24 rfl hkl) rfl ?_) | (refine EL_p (Pu_ix rfl rfl sl24 rfl hul) rfl ?_)
                                                                          refine EL_ld rfl fl21 ((H56.rcellM gmS.fa hitem hrb (i := k) (by omega)).trans (congrArg some (hacc.c k hkl2))) rfl ?_
                                                                          first | (refine EL_p (Pu_ix (congrArg some hrv) rfl sl25 rfl hkl) rfl ?_) | (refine EL_p (Pu_ix rfl rfl sl25 rfl hul) rfl ?_)
                                                                          refine EL_L0 (Lo_st (j := 0) (i := (accF s.h x s.h.n).getD k 0) H56 rfl rfl rfl fl4 rfl hul (fun v53 H57 => ?_))
                                                                          refine EL_nil ?_
                                                                          refine CE_reg ?_
                                                                          refine EL_p (Pu_mv rfl) rfl ?_
                                                                          refine EL_p (Pu_add rfl rfl (w64 (by omega))) rfl ?_
                                                                          refine EL_p (Pu_as rfl) rfl ?_
                                                                          refine EL_nil ?_
                                                                          exact ⟨k + 1, by omega, ⟨rfl, rfl, rfl, rfl, rfl, rfl, rfl, rfl, rfl, rfl, rfl, rfl, rfl, rfl, rfl, rfl, rfl, rfl, rfl, rfl, rfl, rfl, rfl, rfl, rfl, rfl, rfl, rfl, trivial⟩, hkp, H57.congr (j := 0) rfl (setB (mk_yes (Nat.zero_le _)))⟩
                                                                        · have hke : pa = k := by omega
                                                                          subst hke
                                                                          refine CE_exit ?_
                                                                          refine CE_seq ?_
                                                                          refine CE_seq ?_
                                                                          refine CE_reg ?_
                                                                          refine EL_p (Pu_as rfl) rfl ?_
                                                                          refine EL_nil ?_
                                                                          refine CE_block ?_
                                                                          refine CE_loop (fun (k : Nat) w' => k ≤ pw ∧ HP w w' (Blk qpr s.h.nt (fun u => .bool (mk (mk (fun _ => false) (accF s.h x s.h.n) 0 pa) (wrsF s.h x s.h.n) 0 (k) u)) :: Blk qsu s.h.nt (fun u => .bool ((mk (mk (fun _ => false) (accF s.h x s.h.n) sa (accF s.h x s.h.n).length) (wrsF s.h x s.h.n) sw (wrsF s.h x s.h.n).length) u)) :: Blk qlw s.h.nt (fun u => .int .i64 (lstP (twB s.h x u) (s.h.n))) :: Blk qla s.h.nt (fun u => .int .i64 (lstP (taB s.h x u) (s.h.n))) :: Blk qfw s.h.nt (fun u => .int .i64 (fstP (twB s.h x u) (s.h.n))) :: Blk qfa s.h.nt (fun u => .int .i64 (fstP (taB s.h x u) (s.h.n))) :: (Blk qd s.h.nt (fun u => .int .i64 ((xsF s.h u (s.h.n)).length : Int)) :: M))) (fun k => [(0, aval s.B.z0 s.B.b0 s.h.n), (2, aval s.h.zt s.h.bt s.h.n), (3, aval s.h.zi s.h.bi s.h.n), (4, .int .i64 s.h.m), (5, aval s.h.za s.h.ba s.h.nt), (16, .pointer (some ⟨s.B.gb, 0, none⟩)), (17, .int .i64 s.h.n), (18, .int .i64 s.h.nt), (19, .slice (some ⟨qd, 0, none⟩) s.h.nt s.h.nt), (25, .slice (some ⟨s.B.ab, 0, none⟩) s.h.m s.h.m), (26, .slice (some ⟨s.B.wb, 0, none⟩) s.h.m s.h.m), (27, .slice (some ⟨qfa, 0, none⟩) s.h.nt s.h.nt), (28, .slice (some ⟨qfw, 0, none⟩) s.h.nt s.h.nt), (29, .slice (some ⟨qla, 0, none⟩) s.h.nt s.h.nt), (30, .slice (some ⟨qlw, 0, none⟩) s.h.nt s.h.nt), (32, .slice (some ⟨qsu, 0, none⟩) s.h.nt s.h.nt), (33, .slice (some ⟨qpr, 0, none⟩) s.h.nt s.h.nt), (34, .int .i64 t), (35, .int .i64 ((xsF s.h t s.h.n).length : Int)), (36, .int .i64 i), (37, .int .i32 x), (38, .int .i32 sa), (39, .int .i32 sw), (40, .int .i32 pa), (41, .int .i32 pw), (54, (s.G.Ra x).val), (55, (s.G.Rw x).val), (65, .int .i64 k)]) (fun k => pw - k) 0 ⟨Nat.zero_le _, H56.congr (j := 0) rfl (fun u _ => congrArg (fun z : Bool => Value.bool z) ((mk_start (mk (fun _ => false) (accF s.h x s.h.n) 0 pa) _ 0 u).symm))⟩ ⟨rfl, rfl, rfl, rfl, rfl, rfl, rfl, rfl, rfl, rfl, rfl, rfl, rfl, rfl, rfl, rfl, rfl, rfl, rfl, rfl, rfl, rfl, rfl, rfl, rfl, rfl, rfl, rfl, trivial⟩ ?_
                                                                          rintro k v54 ⟨hk, H58⟩
                                                                          have gmS : GM s.h s.G s.B (Blk qpr s.h.nt (fun u => .bool (mk (mk (fun _ => false) (accF s.h x s.h.n) 0 pa) (wrsF s.h x s.h.n) 0 (k) u)) :: Blk qsu s.h.nt (fun u => .bool ((mk (mk (fun _ => false) (accF s.h x s.h.n) sa (accF s.h x s.h.n).length) (wrsF s.h x s.h.n) sw (wrsF s.h x s.h.n).length) u)) :: Blk qlw s.h.nt (fun u => .int .i64 (lstP (twB s.h x u) (s.h.n))) :: Blk qla s.h.nt (fun u => .int .i64 (lstP (taB s.h x u) (s.h.n))) :: Blk qfw s.h.nt (fun u => .int .i64 (fstP (twB s.h x u) (s.h.n))) :: Blk qfa s.h.nt (fun u => .int .i64 (fstP (taB s.h x u) (s.h.n))) :: (Blk qd s.h.nt (fun u => .int .i64 ((xsF s.h u (s.h.n)).length : Int)) :: M)) := (((((((gm.cons _).cons _).cons _).cons _).cons _).cons _).cons _)
                                                                          refine CE_seq ?_
                                                                          refine CE_seq ?_
                                                                          refine CE_reg ?_
                                                                          refine EL_p (Pu_mv rfl) rfl ?_
                                                                          refine EL_p (Pu_mv rfl) rfl ?_
                                                                          refine EL_p (Pu_cnv rfl in21 in3 (w64 (by omega))) rfl ?_
                                                                          refine EL_p (Pu_lss rfl rfl) rfl ?_
                                                                          refine EL_nil ?_
                                                                          refine CE_cP rfl (fun c514 => ?_) (fun c514 => ?_)
                                                                          · have hkp : k < pw := by omega
                                                                            have hkl : k < (s.G.Rw x).len := by omega
                                                                            have hkl2 : k < (wrsF s.h x s.h.n).length := by omega
                                                                            have hul := wrs_lt ho hkl2
                                                                            refine Exists.elim (H58.rblkM gmS.fw hitem (by omega)) (fun rb hrr => ?_)
                                                                            have hrb := hrr.1
                                                                            have hrv := hrr.2
                                                                            refine CE_skip ?_
                                                                            refine CE_seq ?_
                                                                            refine CE_block ?_
                                                                            refine CE_reg ?_
                                                                            refine EL_p (Pu_mv rfl) rfl ?_
                                                                            refine EL_p (Pu_mv rfl) rfl ?_
                                                                            refine EL_p (Pu_mv rfl) rfl ?_
                                                                            first | (refine EL_p (Pu_ix (congrArg some hrv) rfl sl24 rfl hkl) rfl ?_) | (refine EL_p (Pu_ix rfl rfl sl24 rfl hul) rfl ?_)
                                                                            refine EL_ld rfl fl21 ((H58.rcellM gmS.fw hitem hrb (i := k) (by omega)).trans (congrArg some (hwrs.c k hkl2))) rfl ?_
                                                                            first | (refine EL_p (Pu_ix (congrArg some hrv) rfl sl25 rfl hkl) rfl ?_) | (refine EL_p (Pu_ix rfl rfl sl25 rfl hul) rfl ?_)
                                                                            refine EL_L0 (Lo_st (j := 0) (i := (wrsF s.h x s.h.n).getD k 0) H58 rfl rfl rfl fl4 rfl hul (fun v55 H59 => ?_))
                                                                            refine EL_nil ?_
                                                                            refine CE_reg ?_
                                                                            refine EL_p (Pu_mv rfl) rfl ?_
                                                                            refine EL_p (Pu_add rfl rfl (w64 (by omega))) rfl ?_
                                                                            refine EL_p (Pu_as rfl) rfl ?_
                                                                            refine EL_nil ?_
                                                                            exact ⟨k + 1, by omega, ⟨rfl, rfl, rfl, rfl, rfl, rfl, rfl, rfl, rfl, rfl, rfl, rfl, rfl, rfl, rfl, rfl, rfl, rfl, rfl, rfl, rfl, rfl, rfl, rfl, rfl, rfl, rfl, rfl, trivial⟩, hkp, H59.congr (j := 0) rfl (setB (mk_yes (Nat.zero_le _)))⟩
                                                                          · have hke : pw = k := by omega
                                                                            subst hke
                                                                            refine CE_exit ?_
                                                                            refine CE_seq ?_
                                                                            refine CE_reg ?_
                                                                            refine EL_p (Pu_mv rfl) rfl ?_
                                                                            refine EL_p (Pu_mv rfl) rfl ?_
                                                                            refine EL_p (Pu_ix rfl rfl sl23 rfl htl) rfl ?_
                                                                            refine EL_ld rfl fl3 (H58.cell (j := 5) rfl htl) rfl ?_
                                                                            refine EL_p (Pu_geq rfl rfl) rfl ?_
                                                                            refine EL_p (Pu_as rfl) rfl ?_
                                                                            refine EL_nil ?_
                                                                            refine CE_seq ?_
                                                                            refine CE_seq ?_
                                                                            refine CE_reg ?_
                                                                            refine EL_p (Pu_as rfl) rfl ?_
                                                                            refine EL_nil ?_
                                                                            refine CE_block ?_
                                                                            have hsu := fun u => su_iff (u := u) rg h0
                                                                            have hpr := fun u => pr_iff (u := u) rg
                                                                            refine CE_loop (fun (q : Nat) w' => q ≤ s.h.n ∧ HP w w' (Blk qpr s.h.nt (fun u => .bool ((mk (mk (fun _ => false) (accF s.h x s.h.n) 0 pa) (wrsF s.h x s.h.n) 0 pw) u)) :: Blk qsu s.h.nt (fun u => .bool ((mk (mk (fun _ => false) (accF s.h x s.h.n) sa (accF s.h x s.h.n).length) (wrsF s.h x s.h.n) sw (wrsF s.h x s.h.n).length) u)) :: Blk qlw s.h.nt (fun u => .int .i64 (lstP (twB s.h x u) (s.h.n))) :: Blk qla s.h.nt (fun u => .int .i64 (lstP (taB s.h x u) (s.h.n))) :: Blk qfw s.h.nt (fun u => .int .i64 (fstP (twB s.h x u) (s.h.n))) :: Blk qfa s.h.nt (fun u => .int .i64 (fstP (taB s.h x u) (s.h.n))) :: (Blk qd s.h.nt (fun u => .int .i64 ((xsF s.h u (s.h.n)).length : Int)) :: M))) (fun q => [(0, aval s.B.z0 s.B.b0 s.h.n), (2, aval s.h.zt s.h.bt s.h.n), (3, aval s.h.zi s.h.bi s.h.n), (4, .int .i64 s.h.m), (5, aval s.h.za s.h.ba s.h.nt), (16, .pointer (some ⟨s.B.gb, 0, none⟩)), (17, .int .i64 s.h.n), (18, .int .i64 s.h.nt), (19, .slice (some ⟨qd, 0, none⟩) s.h.nt s.h.nt), (25, .slice (some ⟨s.B.ab, 0, none⟩) s.h.m s.h.m), (26, .slice (some ⟨s.B.wb, 0, none⟩) s.h.m s.h.m), (27, .slice (some ⟨qfa, 0, none⟩) s.h.nt s.h.nt), (28, .slice (some ⟨qfw, 0, none⟩) s.h.nt s.h.nt), (29, .slice (some ⟨qla, 0, none⟩) s.h.nt s.h.nt), (30, .slice (some ⟨qlw, 0, none⟩) s.h.nt s.h.nt), (32, .slice (some ⟨qsu, 0, none⟩) s.h.nt s.h.nt), (33, .slice (some ⟨qpr, 0, none⟩) s.h.nt s.h.nt), (34, .int .i64 t), (35, .int .i64 ((xsF s.h t s.h.n).length : Int)), (36, .int .i64 i), (37, .int .i32 x), (38, .int .i32 sa), (39, .int .i32 sw), (40, .int .i32 pa), (41, .int .i32 pw), (54, (s.G.Ra x).val), (55, (s.G.Rw x).val), (66, .bool true), (67, .int .i64 q)]) (fun q => s.h.n - q) 0 ⟨Nat.zero_le _, H58⟩ ⟨rfl, rfl, rfl, rfl, rfl, rfl, rfl, rfl, rfl, rfl, rfl, rfl, rfl, rfl, rfl, rfl, rfl, rfl, rfl, rfl, rfl, rfl, rfl, rfl, rfl, rfl, rfl, congrArg (fun b => some (Value.bool b)) (decide_eq_true h0), rfl, trivial⟩ ?_
                                                                            rintro q v56 ⟨hq, H60⟩
                                                                            have gmZ : GM s.h s.G s.B (Blk qpr s.h.nt (fun u => .bool ((mk (mk (fun _ => false) (accF s.h x s.h.n) 0 pa) (wrsF s.h x s.h.n) 0 pw) u)) :: Blk qsu s.h.nt (fun u => .bool ((mk (mk (fun _ => false) (accF s.h x s.h.n) sa (accF s.h x s.h.n).length) (wrsF s.h x s.h.n) sw (wrsF s.h x s.h.n).length) u)) :: Blk qlw s.h.nt (fun u => .int .i64 (lstP (twB s.h x u) (s.h.n))) :: Blk qla s.h.nt (fun u => .int .i64 (lstP (taB s.h x u) (s.h.n))) :: Blk qfw s.h.nt (fun u => .int .i64 (fstP (twB s.h x u) (s.h.n))) :: Blk qfa s.h.nt (fun u => .int .i64 (fstP (taB s.h x u) (s.h.n))) :: (Blk qd s.h.nt (fun u => .int .i64 ((xsF s.h u (s.h.n)).length : Int)) :: M)) := (((((((gm.cons _).cons _).cons _).cons _).cons _).cons _).cons _)
                                                                            refine CE_seq ?_
                                                                            refine CE_seq ?_
                                                                            refine CE_reg ?_
                                                                            refine EL_p (Pu_mv rfl) rfl ?_
                                                                            refine EL_p (Pu_mv rfl) rfl ?_
                                                                            refine EL_p (Pu_lss rfl rfl) rfl ?_
                                                                            refine EL_nil ?_
                                                                            refine CE_cP rfl (fun c530 => ?_) (fun c530 => ?_)
                                                                            · have hqn : q < s.h.n := by omega
                                                                              have hTq := (ho.ok q hqn).1
                                                                              refine CE_skip ?_
                                                                              refine CE_seq ?_
                                                                              refine CE_block ?_
                                                                              refine CE_seq ?_
                                                                              refine CE_seq ?_
                                                                              refine CE_reg ?_
                                                                              refine EL_p (Pu_mv rfl) rfl ?_
                                                                              refine EL_p (Pu_mv rfl) rfl ?_
                                                                              first | (refine EL_p (Pu_ixA rfl rfl sl24 rfl hqn (H60.anzM gmZ.inl.mi hqn)) rfl ?_) | (refine EL_p (Pu_ixA rfl rfl sl24 rfl hqn (H60.anzM gmZ.inl.mt hqn)) rfl ?_) | (refine EL_p (Pu_ixA rfl rfl sl24 rfl hTq (H60.anzM gmZ.inl.ma hTq)) rfl ?_)
                                                                              first | (refine EL_ld rfl fl21 (H60.acellM gmZ.inl.mi hqn) rfl ?_) | (refine EL_ld rfl fl21 (H60.acellM gmZ.inl.mt hqn) rfl ?_) | (refine EL_ld rfl fl21 (H60.acellM gmZ.inl.ma hTq) rfl ?_)
                                                                              refine EL_p (Pu_mv rfl) rfl ?_
                                                                              refine EL_p (Pu_neq rfl rfl) rfl ?_
                                                                              refine EL_p (Pu_mv rfl) rfl ?_
                                                                              refine EL_gN rfl rfl (fun g539 => ?_) (fun g539 => ?_)
                                                                              · refine EL_no rfl rfl rfl rfl ?_
                                                                                refine EL_no rfl rfl rfl rfl ?_
                                                                                refine EL_no rfl rfl rfl rfl ?_
                                                                                refine EL_no rfl rfl rfl rfl ?_
                                                                                refine EL_no rfl rfl rfl rfl ?_
                                                                                refine EL_no rfl rfl rfl rfl ?_
                                                                                refine EL_no rfl rfl rfl rfl ?_
                                                                                refine EL_p (Pu_pt rfl rfl) rfl ?_
                                                                                refine EL_nil ?_
                                                                                refine CE_cond_t rfl ?_
                                                                                refine CE_exit ?_
                                                                                refine CE_reg ?_
                                                                                refine EL_p (Pu_mv rfl) rfl ?_
                                                                                refine EL_p (Pu_add rfl rfl (w64 (by omega))) rfl ?_
                                                                                refine EL_p (Pu_as rfl) rfl ?_
                                                                                refine EL_nil ?_
                                                                                exact ⟨q + 1, by omega, ⟨rfl, rfl, rfl, rfl, rfl, rfl, rfl, rfl, rfl, rfl, rfl, rfl, rfl, rfl, rfl, rfl, rfl, rfl, rfl, rfl, rfl, rfl, rfl, rfl, rfl, rfl, rfl, rfl, rfl, trivial⟩, hqn, H60⟩
                                                                              · refine EL_yes rfl rfl ?_
                                                                                refine EL_p (Pu_mv rfl) rfl ?_
                                                                                refine EL_yes rfl rfl ?_
                                                                                refine EL_p (Pu_mv rfl) rfl ?_
                                                                                refine EL_yes rfl rfl ?_
                                                                                refine EL_p (Pu_mv rfl) rfl ?_
                                                                                refine EL_yes rfl rfl ?_
                                                                                first | (refine EL_p (Pu_ixA rfl rfl sl24 rfl hqn (H60.anzM gmZ.inl.mi hqn)) rfl ?_) | (refine EL_p (Pu_ixA rfl rfl sl24 rfl hqn (H60.anzM gmZ.inl.mt hqn)) rfl ?_) | (refine EL_p (Pu_ixA rfl rfl sl24 rfl hTq (H60.anzM gmZ.inl.ma hTq)) rfl ?_)
                                                                                refine EL_yes rfl rfl ?_
                                                                                first | (refine EL_ld rfl fl21 (H60.acellM gmZ.inl.mi hqn) rfl ?_) | (refine EL_ld rfl fl21 (H60.acellM gmZ.inl.mt hqn) rfl ?_) | (refine EL_ld rfl fl21 (H60.acellM gmZ.inl.ma hTq) rfl ?_)
                                                                                refine EL_yes rfl rfl ?_
                                                                                first | (refine EL_p (Pu_ixA rfl rfl sl25 rfl hqn (H60.anzM gmZ.inl.mi hqn)) rfl ?_) | (refine EL_p (Pu_ixA rfl rfl sl25 rfl hqn (H60.anzM gmZ.inl.mt hqn)) rfl ?_) | (refine EL_p (Pu_ixA rfl rfl sl25 rfl hTq (H60.anzM gmZ.inl.ma hTq)) rfl ?_)
                                                                                refine EL_yes rfl rfl ?_
                                                                                first | (refine EL_ld rfl fl4 (H60.acellM gmZ.inl.mi hqn) rfl ?_) | (refine EL_ld rfl fl4 (H60.acellM gmZ.inl.mt hqn) rfl ?_) | (refine EL_ld rfl fl4 (H60.acellM gmZ.inl.ma hTq) rfl ?_)
                                                                                refine EL_p (Pu_pf rfl rfl) rfl ?_
                                                                                refine EL_nil ?_
                                                                                refine CE_cond rfl (fun c547 => ?_) (fun c547 => ?_)
                                                                                · refine CE_exit ?_
                                                                                  refine CE_reg ?_
                                                                                  refine EL_p (Pu_mv rfl) rfl ?_
                                                                                  refine EL_p (Pu_add rfl rfl (w64 (by omega))) rfl ?_
                                                                                  refine EL_p (Pu_as rfl) rfl ?_
                                                                                  refine EL_nil ?_
                                                                                  exact ⟨q + 1, by omega, ⟨rfl, rfl, rfl, rfl, rfl, rfl, rfl, rfl, rfl, rfl, rfl, rfl, rfl, rfl, rfl, rfl, rfl, rfl, rfl, rfl, rfl, rfl, rfl, rfl, rfl, rfl, rfl, rfl, rfl, trivial⟩, hqn, H60⟩
                                                                                · refine CE_skip ?_
                                                                                  refine CE_seq ?_
                                                                                  refine CE_reg ?_
                                                                                  refine EL_p (Pu_mv rfl) rfl ?_
                                                                                  refine EL_p (Pu_mv rfl) rfl ?_
                                                                                  refine EL_p (Pu_ixA rfl rfl sl24 rfl hqn (H60.anzM gmZ.inl.mt hqn)) rfl ?_
                                                                                  refine EL_ld rfl fl21 (H60.acellM gmZ.inl.mt hqn) rfl ?_
                                                                                  refine EL_p (Pu_cnv rfl in21 in3 (w64 (by omega))) rfl ?_
                                                                                  refine EL_p (Pu_mv rfl) rfl ?_
                                                                                  refine EL_p (Pu_neq rfl rfl) rfl ?_
                                                                                  refine EL_p (Pu_mv rfl) rfl ?_
                                                                                  refine EL_gN rfl rfl (fun g555 => ?_) (fun g555 => ?_)
                                                                                  · refine EL_yes rfl rfl ?_
                                                                                    refine EL_p (Pu_mv rfl) rfl ?_
                                                                                    refine EL_yes rfl rfl ?_
                                                                                    refine EL_p (Pu_mv rfl) rfl ?_
                                                                                    refine EL_yes rfl rfl ?_
                                                                                    refine EL_p (Pu_mv rfl) rfl ?_
                                                                                    refine EL_yes rfl rfl ?_
                                                                                    refine EL_p (Pu_ixA rfl rfl sl24 rfl hqn (H60.anzM gmZ.inl.mt hqn)) rfl ?_
                                                                                    refine EL_yes rfl rfl ?_
                                                                                    refine EL_ld rfl fl21 (H60.acellM gmZ.inl.mt hqn) rfl ?_
                                                                                    refine EL_yes rfl rfl ?_
                                                                                    refine EL_p (Pu_cnv rfl in21 in3 (w64 (by omega))) rfl ?_
                                                                                    refine EL_yes rfl rfl ?_
                                                                                    refine EL_p (Pu_mv rfl) rfl ?_
                                                                                    refine EL_yes rfl rfl ?_
                                                                                    refine EL_p (Pu_mv rfl) rfl ?_
                                                                                    refine EL_yes rfl rfl ?_
                                                                                    refine EL_p (Pu_mv rfl) rfl ?_
                                                                                    refine EL_yes rfl rfl ?_
                                                                                    refine EL_p (Pu_mv rfl) rfl ?_
                                                                                    refine EL_yes rfl rfl ?_
                                                                                    refine EL_p (Pu_mv rfl) rfl ?_
                                                                                    refine EL_yes rfl rfl ?_
                                                                                    refine EL_p (Pu_mv rfl) rfl ?_
                                                                                    refine EL_yes rfl rfl ?_
                                                                                    refine EL_L rfl (Lo_call ca31 rfl ((agrees31 (Fa := fun u => fstP (taB s.h x u) s.h.n) (Fw := fun u => fstP (twB s.h x u) s.h.n) (La := fun u => lstP (taB s.h x u) s.h.n) (Lw := fun u => lstP (twB s.h x u) s.h.n) (Su := (mk (mk (fun _ => false) (accF s.h x s.h.n) sa (accF s.h x s.h.n).length) (wrsF s.h x s.h.n) sw (wrsF s.h x s.h.n).length)) (Pr := (mk (mk (fun _ => false) (accF s.h x s.h.n) 0 pa) (wrsF s.h x s.h.n) 0 pw)) H60 (List.mem_of_getElem? (i := 5) rfl) (List.mem_of_getElem? (i := 4) rfl) (List.mem_of_getElem? (i := 3) rfl) (List.mem_of_getElem? (i := 2) rfl) (List.mem_of_getElem? (i := 1) rfl) (List.mem_of_getElem? (i := 0) rfl) htl hTq (hsu _) (hpr _)).mono (fun y v57 hh => ⟨_, hh.1, ?_⟩)))
                                                                                    have H61 := hh.2
                                                                                    refine EL_yes rfl rfl ?_
                                                                                    refine EL_p (Pu_not rfl) rfl ?_
                                                                                    refine EL_p (Pu_pt rfl rfl) rfl ?_
                                                                                    refine EL_nil ?_
                                                                                    refine CE_cB rfl (fun c570 => ?_) (fun c570 => ?_)
                                                                                    · cases c570 --stop
                                                                                    · refine CE_skip ?_
                                                                                      refine CE_reg ?_
                                                                                      refine EL_p (Pu_mv rfl) rfl ?_
                                                                                      refine EL_p (Pu_add rfl rfl (w64 (by omega))) rfl ?_
                                                                                      refine EL_p (Pu_as rfl) rfl ?_
                                                                                      refine EL_nil ?_
                                                                                      exact ⟨q + 1, by omega, ⟨rfl, rfl, rfl, rfl, rfl, rfl, rfl, rfl, rfl, rfl, rfl, rfl, rfl, rfl, rfl, rfl, rfl, rfl, rfl, rfl, rfl, rfl, rfl, rfl, rfl, rfl, rfl, rfl, rfl, trivial⟩, hqn, H61⟩
                                                                                  · refine EL_no rfl rfl rfl rfl ?_
                                                                                    refine EL_no rfl rfl rfl rfl ?_
                                                                                    refine EL_no rfl rfl rfl rfl ?_
                                                                                    refine EL_no rfl rfl rfl rfl ?_
                                                                                    refine EL_no rfl rfl rfl rfl ?_
                                                                                    refine EL_no rfl rfl rfl rfl ?_
                                                                                    refine EL_no rfl rfl rfl rfl ?_
                                                                                    refine EL_no rfl rfl rfl rfl ?_
                                                                                    refine EL_no rfl rfl rfl rfl ?_
                                                                                    refine EL_no rfl rfl rfl rfl ?_
                                                                                    refine EL_no rfl rfl rfl rfl ?_
                                                                                    refine EL_no rfl rfl rfl rfl ?_
                                                                                    refine EL_no rfl rfl rfl rfl ?_
                                                                                    refine EL_no rfl rfl rfl rfl ?_
                                                                                    refine EL_p (Pu_pf rfl rfl) rfl ?_
                                                                                    refine EL_nil ?_
                                                                                    refine CE_cond_f rfl ?_
                                                                                    refine CE_skip ?_
                                                                                    refine CE_reg ?_
                                                                                    refine EL_p (Pu_mv rfl) rfl ?_
                                                                                    refine EL_p (Pu_add rfl rfl (w64 (by omega))) rfl ?_
                                                                                    refine EL_p (Pu_as rfl) rfl ?_
                                                                                    refine EL_nil ?_
                                                                                    exact ⟨q + 1, by omega, ⟨rfl, rfl, rfl, rfl, rfl, rfl, rfl, rfl, rfl, rfl, rfl, rfl, rfl, rfl, rfl, rfl, rfl, rfl, rfl, rfl, rfl, rfl, rfl, rfl, rfl, rfl, rfl, rfl, rfl, trivial⟩, hqn, H60⟩
                                                                            · refine CE_exit ?_
                                                                              refine CE_seq ?_
                                                                              refine CE_seq ?_
                                                                              refine CE_reg ?_
                                                                              refine EL_p (Pu_mv rfl) rfl ?_
                                                                              refine EL_p (Pu_len rfl sl24 rfl) rfl ?_
                                                                              refine EL_p (Pu_mv rfl) rfl ?_
                                                                              refine EL_nil ?_
                                                                              refine CE_block ?_
                                                                              refine CE_loop (fun (k : Nat) w' => k ≤ (s.G.Ra x).len ∧ HP w w' (Blk qpr s.h.nt (fun u => .bool ((mk (mk (fun _ => false) (accF s.h x s.h.n) 0 pa) (wrsF s.h x s.h.n) 0 pw) u)) :: Blk qsu s.h.nt (fun u => .bool ((mk (mk (fun _ => false) (accF s.h x s.h.n) sa (accF s.h x s.h.n).length) (wrsF s.h x s.h.n) sw (wrsF s.h x s.h.n).length) u)) :: Blk qlw s.h.nt (fun u => .int .i64 (lstP (twB s.h x u) (s.h.n))) :: Blk qla s.h.nt (fun u => .int .i64 (lstP (taB s.h x u) (s.h.n))) :: Blk qfw s.h.nt (fun u => .int .i64 (fstP (twB s.h x u) (s.h.n))) :: Blk qfa s.h.nt (fun u => .int .i64 (fstP (taB s.h x u) (s.h.n))) :: (Blk qd s.h.nt (fun u => .int .i64 ((xsF s.h u (s.h.n)).length : Int)) :: M))) (fun k => [(0, aval s.B.z0 s.B.b0 s.h.n), (2, aval s.h.zt s.h.bt s.h.n), (3, aval s.h.zi s.h.bi s.h.n), (4, .int .i64 s.h.m), (5, aval s.h.za s.h.ba s.h.nt), (16, .pointer (some ⟨s.B.gb, 0, none⟩)), (17, .int .i64 s.h.n), (18, .int .i64 s.h.nt), (19, .slice (some ⟨qd, 0, none⟩) s.h.nt s.h.nt), (25, .slice (some ⟨s.B.ab, 0, none⟩) s.h.m s.h.m), (26, .slice (some ⟨s.B.wb, 0, none⟩) s.h.m s.h.m), (27, .slice (some ⟨qfa, 0, none⟩) s.h.nt s.h.nt), (28, .slice (some ⟨qfw, 0, none⟩) s.h.nt s.h.nt), (29, .slice (some ⟨qla, 0, none⟩) s.h.nt s.h.nt), (30, .slice (some ⟨qlw, 0, none⟩) s.h.nt s.h.nt), (32, .slice (some ⟨qsu, 0, none⟩) s.h.nt s.h.nt), (33, .slice (some ⟨qpr, 0, none⟩) s.h.nt s.h.nt), (34, .int .i64 t), (35, .int .i64 ((xsF s.h t s.h.n).length : Int)), (36, .int .i64 i), (37, .int .i32 x), (38, .int .i32 sa), (39, .int .i32 sw), (40, .int .i32 pa), (41, .int .i32 pw), (54, (s.G.Ra x).val), (55, (s.G.Rw x).val), (66, .bool true), (571, (s.G.Ra x).val), (572, .int .i64 (s.G.Ra x).len), (573, .int .i64 k)]) (fun k => (s.G.Ra x).len - k) 0 ⟨Nat.zero_le _, H60⟩ ⟨rfl, rfl, rfl, rfl, rfl, rfl, rfl, rfl, rfl, rfl, rfl, rfl, rfl, rfl, rfl, rfl, rfl, rfl, rfl, rfl, rfl, rfl, rfl, rfl, rfl, rfl, rfl, rfl, rfl, rfl, rfl, trivial⟩ ?_
                                                                              rintro k v58 ⟨hk, H62⟩
                                                                              refine CE_seq ?_
                                                                              refine CE_reg ?_
                                                                              refine EL_p (Pu_lss rfl rfl) rfl ?_
                                                                              refine EL_nil ?_
                                                                              refine CE_seq ?_
                                                                              refine CE_cP rfl (fun c574 => ?_) (fun c574 => ?_)
                                                                              · have hkl : k < (s.G.Ra x).len := by omega
                                                                                have hkl2 : k < (accF s.h x s.h.n).length := by omega
                                                                                have hul := acc_lt ho hkl2
                                                                                refine Exists.elim (H62.rblkM gmZ.fa hitem (by omega)) (fun rb hrr => ?_)
                                                                                have hrb := hrr.1
                                                                                have hrv := hrr.2
                                                                                refine CE_skip ?_
                                                                                refine CE_seq ?_
                                                                                refine CE_block ?_
                                                                                refine CE_seq ?_
                                                                                refine CE_reg ?_
                                                                                refine EL_p (Pu_ix (congrArg some hrv) rfl sl24 rfl hkl) rfl ?_
                                                                                refine EL_ld rfl fl21 ((H62.rcellM gmZ.fa hitem hrb (i := k) (by omega)).trans (congrArg some (hacc.c k hkl2))) rfl ?_
                                                                                refine EL_p (Pu_as rfl) rfl ?_
                                                                                refine EL_nil ?_
                                                                                refine CE_seq ?_
                                                                                refine CE_reg ?_
                                                                                refine EL_p (Pu_mv rfl) rfl ?_
                                                                                refine EL_p (Pu_cnv rfl in21 in3 (w64 (by omega))) rfl ?_
                                                                                refine EL_p (Pu_mv rfl) rfl ?_
                                                                                refine EL_p (Pu_neq rfl rfl) rfl ?_
                                                                                refine EL_p (Pu_mv rfl) rfl ?_
                                                                                refine EL_gN rfl rfl (fun g581 => ?_) (fun g581 => ?_)
                                                                                · refine EL_yes rfl rfl ?_
                                                                                  refine EL_p (Pu_mv rfl) rfl ?_
                                                                                  refine EL_yes rfl rfl ?_
                                                                                  refine EL_p (Pu_mv rfl) rfl ?_
                                                                                  refine EL_yes rfl rfl ?_
                                                                                  refine EL_p (Pu_cnv rfl in21 in3 (w64 (by omega))) rfl ?_
                                                                                  refine EL_yes rfl rfl ?_
                                                                                  refine EL_p (Pu_mv rfl) rfl ?_
                                                                                  refine EL_yes rfl rfl ?_
                                                                                  refine EL_p (Pu_mv rfl) rfl ?_
                                                                                  refine EL_yes rfl rfl ?_
                                                                                  refine EL_p (Pu_mv rfl) rfl ?_
                                                                                  refine EL_yes rfl rfl ?_
                                                                                  refine EL_p (Pu_mv rfl) rfl ?_
                                                                                  refine EL_yes rfl rfl ?_
                                                                                  refine EL_p (Pu_mv rfl) rfl ?_
                                                                                  refine EL_yes rfl rfl ?_
                                                                                  refine EL_p (Pu_mv rfl) rfl ?_
                                                                                  refine EL_yes rfl rfl ?_
                                                                                  refine EL_L rfl (Lo_call ca31 rfl ((agrees31 (Fa := fun u => fstP (taB s.h x u) s.h.n) (Fw := fun u => fstP (twB s.h x u) s.h.n) (La := fun u => lstP (taB s.h x u) s.h.n) (Lw := fun u => lstP (twB s.h x u) s.h.n) (Su := (mk (mk (fun _ => false) (accF s.h x s.h.n) sa (accF s.h x s.h.n).length) (wrsF s.h x s.h.n) sw (wrsF s.h x s.h.n).length)) (Pr := (mk (mk (fun _ => false) (accF s.h x s.h.n) 0 pa) (wrsF s.h x s.h.n) 0 pw)) H62 (List.mem_of_getElem? (i := 5) rfl) (List.mem_of_getElem? (i := 4) rfl) (List.mem_of_getElem? (i := 3) rfl) (List.mem_of_getElem? (i := 2) rfl) (List.mem_of_getElem? (i := 1) rfl) (List.mem_of_getElem? (i := 0) rfl) htl hul (hsu _) (hpr _)).mono (fun y v59 hh => ⟨_, hh.1, ?_⟩)))
                                                                                  have H63 := hh.2
                                                                                  refine EL_yes rfl rfl ?_
                                                                                  refine EL_p (Pu_not rfl) rfl ?_
                                                                                  refine EL_p (Pu_pt rfl rfl) rfl ?_
                                                                                  refine EL_nil ?_
                                                                                  refine CE_cB rfl (fun c593 => ?_) (fun c593 => ?_)
                                                                                  · cases c593 --stop
                                                                                  · refine CE_skip ?_
                                                                                    refine CE_reg ?_
                                                                                    refine EL_p (Pu_add rfl rfl (w64 (by omega))) rfl ?_
                                                                                    refine EL_p (Pu_mv rfl) rfl ?_
                                                                                    refine EL_nil ?_
                                                                                    exact ⟨k + 1, by omega, ⟨rfl, rfl, rfl, rfl, rfl, rfl, rfl, rfl, rfl, rfl, rfl, rfl, rfl, rfl, rfl, rfl, rfl, rfl, rfl, rfl, rfl, rfl, rfl, rfl, rfl, rfl, rfl, rfl, rfl, rfl, rfl, trivial⟩, hkl, H63⟩
                                                                                · refine EL_no rfl rfl rfl rfl ?_
                                                                                  refine EL_no rfl rfl rfl rfl ?_
                                                                                  refine EL_no rfl rfl rfl rfl ?_
                                                                                  refine EL_no rfl rfl rfl rfl ?_
                                                                                  refine EL_no rfl rfl rfl rfl ?_
                                                                                  refine EL_no rfl rfl rfl rfl ?_
                                                                                  refine EL_no rfl rfl rfl rfl ?_
                                                                                  refine EL_no rfl rfl rfl rfl ?_
                                                                                  refine EL_no rfl rfl rfl rfl ?_
                                                                                  refine EL_no rfl rfl rfl rfl ?_
                                                                                  refine EL_no rfl rfl rfl rfl ?_
                                                                                  refine EL_p (Pu_pf rfl rfl) rfl ?_
                                                                                  refine EL_nil ?_
                                                                                  refine CE_cond_f rfl ?_
                                                                                  refine CE_skip ?_
                                                                                  refine CE_reg ?_
                                                                                  refine EL_p (Pu_add rfl rfl (w64 (by omega))) rfl ?_
                                                                                  refine EL_p (Pu_mv rfl) rfl ?_
                                                                                  refine EL_nil ?_
                                                                                  exact ⟨k + 1, by omega, ⟨rfl, rfl, rfl, rfl, rfl, rfl, rfl, rfl, rfl, rfl, rfl, rfl, rfl, rfl, rfl, rfl, rfl, rfl, rfl, rfl, rfl, rfl, rfl, rfl, rfl, rfl, rfl, rfl, rfl, rfl, rfl, trivial⟩, hkl, H62⟩
                                                                              · refine CE_exit ?_
                                                                                refine CE_seq ?_
                                                                                refine CE_seq ?_
                                                                                refine CE_reg ?_
                                                                                refine EL_p (Pu_mv rfl) rfl ?_
                                                                                refine EL_p (Pu_len rfl sl24 rfl) rfl ?_
                                                                                refine EL_p (Pu_mv rfl) rfl ?_
                                                                                refine EL_nil ?_
                                                                                refine CE_block ?_
                                                                                refine CE_loop (fun (k : Nat) w' => k ≤ (s.G.Rw x).len ∧ HP w w' (Blk qpr s.h.nt (fun u => .bool ((mk (mk (fun _ => false) (accF s.h x s.h.n) 0 pa) (wrsF s.h x s.h.n) 0 pw) u)) :: Blk qsu s.h.nt (fun u => .bool ((mk (mk (fun _ => false) (accF s.h x s.h.n) sa (accF s.h x s.h.n).length) (wrsF s.h x s.h.n) sw (wrsF s.h x s.h.n).length) u)) :: Blk qlw s.h.nt (fun u => .int .i64 (lstP (twB s.h x u) (s.h.n))) :: Blk qla s.h.nt (fun u => .int .i64 (lstP (taB s.h x u) (s.h.n))) :: Blk qfw s.h.nt (fun u => .int .i64 (fstP (twB s.h x u) (s.h.n))) :: Blk qfa s.h.nt (fun u => .int .i64 (fstP (taB s.h x u) (s.h.n))) :: (Blk qd s.h.nt (fun u => .int .i64 ((xsF s.h u (s.h.n)).length : Int)) :: M))) (fun k => [(0, aval s.B.z0 s.B.b0 s.h.n), (2, aval s.h.zt s.h.bt s.h.n), (3, aval s.h.zi s.h.bi s.h.n), (4, .int .i64 s.h.m), (5, aval s.h.za s.h.ba s.h.nt), (16, .pointer (some ⟨s.B.gb, 0, none⟩)), (17, .int .i64 s.h.n), (18, .int .i64 s.h.nt), (19, .slice (some ⟨qd, 0, none⟩) s.h.nt s.h.nt), (25, .slice (some ⟨s.B.ab, 0, none⟩) s.h.m s.h.m), (26, .slice (some ⟨s.B.wb, 0, none⟩) s.h.m s.h.m), (27, .slice (some ⟨qfa, 0, none⟩) s.h.nt s.h.nt), (28, .slice (some ⟨qfw, 0, none⟩) s.h.nt s.h.nt), (29, .slice (some ⟨qla, 0, none⟩) s.h.nt s.h.nt), (30, .slice (some ⟨qlw, 0, none⟩) s.h.nt s.h.nt), (32, .slice (some ⟨qsu, 0, none⟩) s.h.nt s.h.nt), (33, .slice (some ⟨qpr, 0, none⟩) s.h.nt s.h.nt), (34, .int .i64 t), (35, .int .i64 ((xsF s.h t s.h.n).length : Int)), (36, .int .i64 i), (37, .int .i32 x), (38, .int .i32 sa), (39, .int .i32 sw), (40, .int .i32 pa), (41, .int .i32 pw), (54, (s.G.Ra x).val), (55, (s.G.Rw x).val), (66, .bool true), (595, (s.G.Rw x).val), (596, .int .i64 (s.G.Rw x).len), (597, .int .i64 k)]) (fun k => (s.G.Rw x).len - k) 0 ⟨Nat.zero_le _, H62⟩ ⟨rfl, rfl, rfl, rfl, rfl, rfl, rfl, rfl, rfl, rfl, rfl, rfl, rfl, rfl, rfl, rfl, rfl, rfl, rfl, rfl, rfl, rfl, rfl, rfl, rfl, rfl, rfl, rfl, rfl, rfl, rfl, trivial⟩ ?_
                                                                                rintro k v60 ⟨hk, H64⟩
                                                                                refine CE_seq ?_
                                                                                refine CE_reg ?_
                                                                                refine EL_p (Pu_lss rfl rfl) rfl ?_
                                                                                refine EL_nil ?_
                                                                                refine CE_seq ?_
                                                                                refine CE_cP rfl (fun c598 => ?_) (fun c598 => ?_)
                                                                                · have hkl : k < (s.G.Rw x).len := by omega
                                                                                  have hkl2 : k < (wrsF s.h x s.h.n).length := by omega
                                                                                  have hul := wrs_lt ho hkl2
                                                                                  refine Exists.elim (H64.rblkM gmZ.fw hitem (by omega)) (fun rb hrr => ?_)
                                                                                  have hrb := hrr.1
                                                                                  have hrv := hrr.2
                                                                                  refine CE_skip ?_
                                                                                  refine CE_seq ?_
                                                                                  refine CE_block ?_
                                                                                  refine CE_seq ?_
                                                                                  refine CE_reg ?_
                                                                                  refine EL_p (Pu_ix (congrArg some hrv) rfl sl24 rfl hkl) rfl ?_
                                                                                  refine EL_ld rfl fl21 ((H64.rcellM gmZ.fw hitem hrb (i := k) (by omega)).trans (congrArg some (hwrs.c k hkl2))) rfl ?_
                                                                                  refine EL_p (Pu_as rfl) rfl ?_
                                                                                  refine EL_nil ?_
                                                                                  refine CE_seq ?_
                                                                                  refine CE_reg ?_
                                                                                  refine EL_p (Pu_mv rfl) rfl ?_
                                                                                  refine EL_p (Pu_cnv rfl in21 in3 (w64 (by omega))) rfl ?_
                                                                                  refine EL_p (Pu_mv rfl) rfl ?_
                                                                                  refine EL_p (Pu_neq rfl rfl) rfl ?_
                                                                                  refine EL_p (Pu_mv rfl) rfl ?_
                                                                                  refine EL_gN rfl rfl (fun g605 => ?_) (fun g605 => ?_)
                                                                                  · refine EL_yes rfl rfl ?_
                                                                                    refine EL_p (Pu_mv rfl) rfl ?_
                                                                                    refine EL_yes rfl rfl ?_
                                                                                    refine EL_p (Pu_mv rfl) rfl ?_
                                                                                    refine EL_yes rfl rfl ?_
                                                                                    refine EL_p (Pu_cnv rfl in21 in3 (w64 (by omega))) rfl ?_
                                                                                    refine EL_yes rfl rfl ?_
                                                                                    refine EL_p (Pu_mv rfl) rfl ?_
                                                                                    refine EL_yes rfl rfl ?_
                                                                                    refine EL_p (Pu_mv rfl) rfl ?_
                                                                                    refine EL_yes rfl rfl ?_
                                                                                    refine EL_p (Pu_mv rfl) rfl ?_
                                                                                    refine EL_yes rfl rfl ?_
                                                                                    refine EL_p (Pu_mv rfl) rfl ?_
                                                                                    refine EL_yes rfl rfl ?_
                                                                                    refine EL_p (Pu_mv rfl) rfl ?_
                                                                                    refine EL_yes rfl rfl ?_
                                                                                    refine EL_p (Pu_mv rfl) rfl ?_
                                                                                    refine EL_yes rfl rfl ?_
                                                                                    refine EL_L rfl (Lo_call ca31 rfl ((agrees31 (Fa := fun u => fstP (taB s.h x u) s.h.n) (Fw := fun u => fstP (twB s.h x u) s.h.n) (La := fun u => lstP (taB s.h x u) s.h.n) (Lw := fun u => lstP (twB s.h x u) s.h.n) (Su := (mk (mk (fun _ => false) (accF s.h x s.h.n) sa (accF s.h x s.h.n).length) (wrsF s.h x s.h.n) sw (wrsF s.h x s.h.n).length)) (Pr := (mk (mk (fun _ => false) (accF s.h x s.h.n) 0 pa) (wrsF s.h x s.h.n) 0 pw)) H64 (List.mem_of_getElem? (i := 5) rfl) (List.mem_of_getElem? (i := 4) rfl) (List.mem_of_getElem? (i := 3) rfl) (List.mem_of_getElem? (i := 2) rfl) (List.mem_of_getElem? (i := 1) rfl) (List.mem_of_getElem? (i := 0) rfl) htl hul (hsu _) (hpr _)).mono (fun y v61 hh => ⟨_, hh.1, ?_⟩)))
                                                                                    have H65 := hh.2
                                                                                    refine EL_yes rfl rfl ?_
                                                                                    refine EL_p (Pu_not rfl) rfl ?_
                                                                                    refine EL_p (Pu_pt rfl rfl) rfl ?_
                                                                                    refine EL_nil ?_
                                                                                    refine CE_cB rfl (fun c617 => ?_) (fun c617 => ?_)
                                                                                    · cases c617 --stop
                                                                                    · refine CE_skip ?_
                                                                                      refine CE_reg ?_
                                                                                      refine EL_p (Pu_add rfl rfl (w64 (by omega))) rfl ?_
                                                                                      refine EL_p (Pu_mv rfl) rfl ?_
                                                                                      refine EL_nil ?_
                                                                                      exact ⟨k + 1, by omega, ⟨rfl, rfl, rfl, rfl, rfl, rfl, rfl, rfl, rfl, rfl, rfl, rfl, rfl, rfl, rfl, rfl, rfl, rfl, rfl, rfl, rfl, rfl, rfl, rfl, rfl, rfl, rfl, rfl, rfl, rfl, rfl, trivial⟩, hkl, H65⟩
                                                                                  · refine EL_no rfl rfl rfl rfl ?_
                                                                                    refine EL_no rfl rfl rfl rfl ?_
                                                                                    refine EL_no rfl rfl rfl rfl ?_
                                                                                    refine EL_no rfl rfl rfl rfl ?_
                                                                                    refine EL_no rfl rfl rfl rfl ?_
                                                                                    refine EL_no rfl rfl rfl rfl ?_
                                                                                    refine EL_no rfl rfl rfl rfl ?_
                                                                                    refine EL_no rfl rfl rfl rfl ?_
                                                                                    refine EL_no rfl rfl rfl rfl ?_
                                                                                    refine EL_no rfl rfl rfl rfl ?_
                                                                                    refine EL_no rfl rfl rfl rfl ?_
                                                                                    refine EL_p (Pu_pf rfl rfl) rfl ?_
                                                                                    refine EL_nil ?_
                                                                                    refine CE_cond_f rfl ?_
                                                                                    refine CE_skip ?_
                                                                                    refine CE_reg ?_
                                                                                    refine EL_p (Pu_add rfl rfl (w64 (by omega))) rfl ?_
                                                                                    refine EL_p (Pu_mv rfl) rfl ?_
                                                                                    refine EL_nil ?_
                                                                                    exact ⟨k + 1, by omega, ⟨rfl, rfl, rfl, rfl, rfl, rfl, rfl, rfl, rfl, rfl, rfl, rfl, rfl, rfl, rfl, rfl, rfl, rfl, rfl, rfl, rfl, rfl, rfl, rfl, rfl, rfl, rfl, rfl, rfl, rfl, rfl, trivial⟩, hkl, H64⟩
                                                                                · refine CE_exit ?_
                                                                                  refine CE_seq ?_
                                                                                  refine CE_seq ?_
                                                                                  refine CE_reg ?_
                                                                                  refine EL_p (Pu_as rfl) rfl ?_
                                                                                  refine EL_nil ?_
                                                                                  refine CE_block ?_
                                                                                  have H66 : HP w v60 (Blk qpr s.h.nt (fun u => .bool ((mk (mk (fun _ => false) (accF s.h x s.h.n) 0 pa) (wrsF s.h x s.h.n) 0 pw) u)) :: Blk qsu s.h.nt (fun u => .bool ((mk (mk (fun _ => false) (accF s.h x s.h.n) sa (accF s.h x s.h.n).length) (wrsF s.h x s.h.n) sw (wrsF s.h x s.h.n).length) u)) :: Blk qlw s.h.nt (fun u => .int .i64 (rst s.h x (fun u => lstP (twB s.h x u) (s.h.n)) (0) u)) :: Blk qla s.h.nt (fun u => .int .i64 (rst s.h x (fun u => lstP (taB s.h x u) (s.h.n)) (0) u)) :: Blk qfw s.h.nt (fun u => .int .i64 (rst s.h x (fun u => fstP (twB s.h x u) (s.h.n)) (0) u)) :: Blk qfa s.h.nt (fun u => .int .i64 (rst s.h x (fun u => fstP (taB s.h x u) (s.h.n)) (0) u)) :: (Blk qd s.h.nt (fun u => .int .i64 ((xsF s.h u (s.h.n)).length : Int)) :: M)) := H64
                                                                                  refine CE_loop (fun (q : Nat) w' => q ≤ s.h.n ∧ HP w w' (Blk qpr s.h.nt (fun u => .bool ((mk (mk (fun _ => false) (accF s.h x s.h.n) 0 pa) (wrsF s.h x s.h.n) 0 pw) u)) :: Blk qsu s.h.nt (fun u => .bool ((mk (mk (fun _ => false) (accF s.h x s.h.n) sa (accF s.h x s.h.n).length) (wrsF s.h x s.h.n) sw (wrsF s.h x s.h.n).length) u)) :: Blk qlw s.h.nt (fun u => .int .i64 (rst s.h x (fun u => lstP (twB s.h x u) (s.h.n)) (q) u)) :: Blk qla s.h.nt (fun u => .int .i64 (rst s.h x (fun u => lstP (taB s.h x u) (s.h.n)) (q) u)) :: Blk qfw s.h.nt (fun u => .int .i64 (rst s.h x (fun u => fstP (twB s.h x u) (s.h.n)) (q) u)) :: Blk qfa s.h.nt (fun u => .int .i64 (rst s.h x (fun u => fstP (taB s.h x u) (s.h.n)) (q) u)) :: (Blk qd s.h.nt (fun u => .int .i64 ((xsF s.h u (s.h.n)).length : Int)) :: M))) (fun q => [(0, aval s.B.z0 s.B.b0 s.h.n), (2, aval s.h.zt s.h.bt s.h.n), (3, aval s.h.zi s.h.bi s.h.n), (4, .int .i64 s.h.m), (5, aval s.h.za s.h.ba s.h.nt), (16, .pointer (some ⟨s.B.gb, 0, none⟩)), (17, .int .i64 s.h.n), (18, .int .i64 s.h.nt), (19, .slice (some ⟨qd, 0, none⟩) s.h.nt s.h.nt), (25, .slice (some ⟨s.B.ab, 0, none⟩) s.h.m s.h.m), (26, .slice (some ⟨s.B.wb, 0, none⟩) s.h.m s.h.m), (27, .slice (some ⟨qfa, 0, none⟩) s.h.nt s.h.nt), (28, .slice (some ⟨qfw, 0, none⟩) s.h.nt s.h.nt), (29, .slice (some ⟨qla, 0, none⟩) s.h.nt s.h.nt), (30, .slice (some ⟨qlw, 0, none⟩) s.h.nt s.h.nt), (32, .slice (some ⟨qsu, 0, none⟩) s.h.nt s.h.nt), (33, .slice (some ⟨qpr, 0, none⟩) s.h.nt s.h.nt), (34, .int .i64 t), (35, .int .i64 ((xsF s.h t s.h.n).length : Int)), (36, .int .i64 i), (37, .int .i32 x), (38, .int .i32 sa), (39, .int .i32 sw), (40, .int .i32 pa), (41, .int .i32 pw), (54, (s.G.Ra x).val), (55, (s.G.Rw x).val), (66, .bool true), (72, .int .i64 q)]) (fun q => s.h.n - q) 0 ⟨Nat.zero_le _, H66⟩ ⟨rfl, rfl, rfl, rfl, rfl, rfl, rfl, rfl, rfl, rfl, rfl, rfl, rfl, rfl, rfl, rfl, rfl, rfl, rfl, rfl, rfl, rfl, rfl, rfl, rfl, rfl, rfl, rfl, rfl, trivial⟩ ?_
                                                                                  clear H66
                                                                                  rintro q v62 ⟨hq, H66⟩
                                                                                  have gmR : GM s.h s.G s.B (Blk qpr s.h.nt (fun u => .bool ((mk (mk (fun _ => false) (accF s.h x s.h.n) 0 pa) (wrsF s.h x s.h.n) 0 pw) u)) :: Blk qsu s.h.nt (fun u => .bool ((mk (mk (fun _ => false) (accF s.h x s.h.n) sa (accF s.h x s.h.n).length) (wrsF s.h x s.h.n) sw (wrsF s.h x s.h.n).length) u)) :: Blk qlw s.h.nt (fun u => .int .i64 (rst s.h x (fun u => lstP (twB s.h x u) (s.h.n)) (q) u)) :: Blk qla s.h.nt (fun u => .int .i64 (rst s.h x (fun u => lstP (taB s.h x u) (s.h.n)) (q) u)) :: Blk qfw s.h.nt (fun u => .int .i64 (rst s.h x (fun u => fstP (twB s.h x u) (s.h.n)) (q) u)) :: Blk qfa s.h.nt (fun u => .int .i64 (rst s.h x (fun u => fstP (taB s.h x u) (s.h.n)) (q) u)) :: (Blk qd s.h.nt (fun u => .int .i64 ((xsF s.h u (s.h.n)).length : Int)) :: M)) := (((((((gm.cons _).cons _).cons _).cons _).cons _).cons _).cons _)
                                                                                  refine CE_seq ?_
                                                                                  refine CE_seq ?_
                                                                                  refine CE_reg ?_
                                                                                  refine EL_p (Pu_mv rfl) rfl ?_
                                                                                  refine EL_p (Pu_mv rfl) rfl ?_
                                                                                  refine EL_p (Pu_lss rfl rfl) rfl ?_
                                                                                  refine EL_nil ?_
                                                                                  refine CE_cP rfl (fun c621 => ?_) (fun c621 => ?_)
                                                                                  · have hqn : q < s.h.n := by omega
                                                                                    have hTq := (ho.ok q hqn).1
                                                                                    refine CE_skip ?_
                                                                                    refine CE_seq ?_
                                                                                    refine CE_block ?_
                                                                                    refine CE_seq ?_
                                                                                    refine CE_reg ?_
                                                                                    refine EL_p (Pu_mv rfl) rfl ?_
                                                                                    refine EL_p (Pu_mv rfl) rfl ?_
                                                                                    refine EL_p (Pu_ixA rfl rfl sl24 rfl hqn (H66.anzM gmR.inl.mi hqn)) rfl ?_
                                                                                    refine EL_ld rfl fl21 (H66.acellM gmR.inl.mi hqn) rfl ?_
                                                                                    refine EL_p (Pu_mv rfl) rfl ?_
                                                                                    refine EL_p (Pu_eql rfl rfl) rfl ?_
                                                                                    refine EL_nil ?_
                                                                                    refine CE_cP rfl (fun c629 => ?_) (fun c629 => ?_)
                                                                                    · refine CE_seq ?_
                                                                                      refine CE_reg ?_
                                                                                      refine EL_p (Pu_mv rfl) rfl ?_
                                                                                      refine EL_p (Pu_mv rfl) rfl ?_
                                                                                      refine EL_p (Pu_ixA rfl rfl sl24 rfl hqn (H66.anzM gmR.inl.mt hqn)) rfl ?_
                                                                                      refine EL_ld rfl fl21 (H66.acellM gmR.inl.mt hqn) rfl ?_
                                                                                      refine EL_p (Pu_as rfl) rfl ?_
                                                                                      refine EL_nil ?_
                                                                                      refine CE_seq ?_
                                                                                      refine CE_reg ?_
                                                                                      refine EL_p (Pu_mv rfl) rfl ?_
                                                                                      refine EL_p (Pu_mv rfl) rfl ?_
                                                                                      refine EL_p (Pu_ix rfl rfl sl23 rfl hTq) rfl ?_
                                                                                      refine EL_L0 (Lo_st (j := 5) (i := s.h.T q) H66 rfl rfl rfl fl3 rfl hTq (fun v63 H67 => ?_))
                                                                                      refine EL_nil ?_
                                                                                      refine CE_seq ?_
                                                                                      refine CE_reg ?_
                                                                                      refine EL_p (Pu_mv rfl) rfl ?_
                                                                                      refine EL_p (Pu_mv rfl) rfl ?_
                                                                                      refine EL_p (Pu_ix rfl rfl sl23 rfl hTq) rfl ?_
                                                                                      refine EL_L0 (Lo_st (j := 4) (i := s.h.T q) H67 rfl rfl rfl fl3 rfl hTq (fun v64 H68 => ?_))
                                                                                      refine EL_nil ?_
                                                                                      refine CE_seq ?_
                                                                                      refine CE_reg ?_
                                                                                      refine EL_p (Pu_mv rfl) rfl ?_
                                                                                      refine EL_p (Pu_mv rfl) rfl ?_
                                                                                      refine EL_p (Pu_ix rfl rfl sl23 rfl hTq) rfl ?_
                                                                                      refine EL_L0 (Lo_st (j := 3) (i := s.h.T q) H68 rfl rfl rfl fl3 rfl hTq (fun v65 H69 => ?_))
                                                                                      refine EL_nil ?_
                                                                                      refine CE_reg ?_
                                                                                      refine EL_p (Pu_mv rfl) rfl ?_
                                                                                      refine EL_p (Pu_mv rfl) rfl ?_
                                                                                      refine EL_p (Pu_ix rfl rfl sl23 rfl hTq) rfl ?_
                                                                                      refine EL_L0 (Lo_st (j := 2) (i := s.h.T q) H69 rfl rfl rfl fl3 rfl hTq (fun v66 H70 => ?_))
                                                                                      refine EL_nil ?_
                                                                                      refine CE_reg ?_
                                                                                      refine EL_p (Pu_mv rfl) rfl ?_
                                                                                      refine EL_p (Pu_add rfl rfl (w64 (by omega))) rfl ?_
                                                                                      refine EL_p (Pu_as rfl) rfl ?_
                                                                                      refine EL_nil ?_
                                                                                      exact ⟨q + 1, by omega, ⟨rfl, rfl, rfl, rfl, rfl, rfl, rfl, rfl, rfl, rfl, rfl, rfl, rfl, rfl, rfl, rfl, rfl, rfl, rfl, rfl, rfl, rfl, rfl, rfl, rfl, rfl, rfl, rfl, rfl, trivial⟩, hqn, (((H70.congr (j := 5) rfl (setI (rst_y c629))).congr (j := 4) rfl (setI (rst_y c629))).congr (j := 3) rfl (setI (rst_y c629))).congr (j := 2) rfl (setI (rst_y c629))⟩
                                                                                    · refine CE_skip ?_
                                                                                      refine CE_reg ?_
                                                                                      refine EL_p (Pu_mv rfl) rfl ?_
                                                                                      refine EL_p (Pu_add rfl rfl (w64 (by omega))) rfl ?_
                                                                                      refine EL_p (Pu_as rfl) rfl ?_
                                                                                      refine EL_nil ?_
                                                                                      exact ⟨q + 1, by omega, ⟨rfl, rfl, rfl, rfl, rfl, rfl, rfl, rfl, rfl, rfl, rfl, rfl, rfl, rfl, rfl, rfl, rfl, rfl, rfl, rfl, rfl, rfl, rfl, rfl, rfl, rfl, rfl, rfl, rfl, trivial⟩, hqn, (((H66.congr (j := 5) rfl (fun u _ => congrArg (fun z : Int => Value.int .i64 z) ((rst_n c629 u).symm))).congr (j := 4) rfl (fun u _ => congrArg (fun z : Int => Value.int .i64 z) ((rst_n c629 u).symm))).congr (j := 3) rfl (fun u _ => congrArg (fun z : Int => Value.int .i64 z) ((rst_n c629 u).symm))).congr (j := 2) rfl (fun u _ => congrArg (fun z : Int => Value.int .i64 z) ((rst_n c629 u).symm))⟩
                                                                                  · have hqn : q = s.h.n := by omega
                                                                                    subst hqn
                                                                                    refine CE_exit ?_
                                                                                    refine CE_seq ?_
                                                                                    refine CE_seq ?_
                                                                                    refine CE_reg ?_
                                                                                    refine EL_p (Pu_mv rfl) rfl ?_
                                                                                    refine EL_p (Pu_len rfl sl24 rfl) rfl ?_
                                                                                    refine EL_p (Pu_mv rfl) rfl ?_
                                                                                    refine EL_nil ?_
                                                                                    refine CE_block ?_
                                                                                    have H71 : HP w v62 (Blk qpr s.h.nt (fun u => .bool (clr (mk (mk (fun _ => false) (accF s.h x s.h.n) 0 pa) (wrsF s.h x s.h.n) 0 pw) (accF s.h x s.h.n) (0) u)) :: Blk qsu s.h.nt (fun u => .bool (clr (mk (mk (fun _ => false) (accF s.h x s.h.n) sa (accF s.h x s.h.n).length) (wrsF s.h x s.h.n) sw (wrsF s.h x s.h.n).length) (accF s.h x s.h.n) (0) u)) :: Blk qlw s.h.nt (fun u => .int .i64 (rst s.h x (fun u => lstP (twB s.h x u) (s.h.n)) (s.h.n) u)) :: Blk qla s.h.nt (fun u => .int .i64 (rst s.h x (fun u => lstP (taB s.h x u) (s.h.n)) (s.h.n) u)) :: Blk qfw s.h.nt (fun u => .int .i64 (rst s.h x (fun u => fstP (twB s.h x u) (s.h.n)) (s.h.n) u)) :: Blk qfa s.h.nt (fun u => .int .i64 (rst s.h x (fun u => fstP (taB s.h x u) (s.h.n)) (s.h.n) u)) :: (Blk qd s.h.nt (fun u => .int .i64 ((xsF s.h u (s.h.n)).length : Int)) :: M)) := H66
                                                                                    refine CE_loop (fun (k : Nat) w' => k ≤ (s.G.Ra x).len ∧ HP w w' (Blk qpr s.h.nt (fun u => .bool (clr (mk (mk (fun _ => false) (accF s.h x s.h.n) 0 pa) (wrsF s.h x s.h.n) 0 pw) (accF s.h x s.h.n) (k) u)) :: Blk qsu s.h.nt (fun u => .bool (clr (mk (mk (fun _ => false) (accF s.h x s.h.n) sa (accF s.h x s.h.n).length) (wrsF s.h x s.h.n) sw (wrsF s.h x s.h.n).length) (accF s.h x s.h.n) (k) u)) :: Blk qlw s.h.nt (fun u => .int .i64 (rst s.h x (fun u => lstP (twB s.h x u) (s.h.n)) (s.h.n) u)) :: Blk qla s.h.nt (fun u => .int .i64 (rst s.h x (fun u => lstP (taB s.h x u) (s.h.n)) (s.h.n) u)) :: Blk qfw s.h.nt (fun u => .int .i64 (rst s.h x (fun u => fstP (twB s.h x u) (s.h.n)) (s.h.n) u)) :: Blk qfa s.h.nt (fun u => .int .i64 (rst s.h x (fun u => fstP (taB s.h x u) (s.h.n)) (s.h.n) u)) :: (Blk qd s.h.nt (fun u => .int .i64 ((xsF s.h u (s.h.n)).length : Int)) :: M))) (fun k => [(0, aval s.B.z0 s.B.b0 s.h.n), (2, aval s.h.zt s.h.bt s.h.n), (3, aval s.h.zi s.h.bi s.h.n), (4, .int .i64 s.h.m), (5, aval s.h.za s.h.ba s.h.nt), (16, .pointer (some ⟨s.B.gb, 0, none⟩)), (17, .int .i64 s.h.n), (18, .int .i64 s.h.nt), (19, .slice (some ⟨qd, 0, none⟩) s.h.nt s.h.nt), (25, .slice (some ⟨s.B.ab, 0, none⟩) s.h.m s.h.m), (26, .slice (some ⟨s.B.wb, 0, none⟩) s.h.m s.h.m), (27, .slice (some ⟨qfa, 0, none⟩) s.h.nt s.h.nt), (28, .slice (some ⟨qfw, 0, none⟩) s.h.nt s.h.nt), (29, .slice (some ⟨qla, 0, none⟩) s.h.nt s.h.nt), (30, .slice (some ⟨qlw, 0, none⟩) s.h.nt s.h.nt), (32, .slice (some ⟨qsu, 0, none⟩) s.h.nt s.h.nt), (33, .slice (some ⟨qpr, 0, none⟩) s.h.nt s.h.nt), (34, .int .i64 t), (35, .int .i64 ((xsF s.h t s.h.n).length : Int)), (36, .int .i64 i), (37, .int .i32 x), (38, .int .i32 sa), (39, .int .i32 sw), (40, .int .i32 pa), (41, .int .i32 pw), (54, (s.G.Ra x).val), (55, (s.G.Rw x).val), (66, .bool true), (646, (s.G.Ra x).val), (647, .int .i64 (s.G.Ra x).len), (648, .int .i64 k)]) (fun k => (s.G.Ra x).len - k) 0 ⟨Nat.zero_le _, H71⟩ ⟨rfl, rfl, rfl, rfl, rfl, rfl, rfl, rfl, rfl, rfl, rfl, rfl, rfl, rfl, rfl, rfl, rfl, rfl, rfl, rfl, rfl, rfl, rfl, rfl, rfl, rfl, rfl, rfl, rfl, rfl, rfl, trivial⟩ ?_
                                                                                    clear H71
                                                                                    rintro k v67 ⟨hk, H71⟩
                                                                                    have gmC : GM s.h s.G s.B (Blk qpr s.h.nt (fun u => .bool (clr (mk (mk (fun _ => false) (accF s.h x s.h.n) 0 pa) (wrsF s.h x s.h.n) 0 pw) (accF s.h x s.h.n) (k) u)) :: Blk qsu s.h.nt (fun u => .bool (clr (mk (mk (fun _ => false) (accF s.h x s.h.n) sa (accF s.h x s.h.n).length) (wrsF s.h x s.h.n) sw (wrsF s.h x s.h.n).length) (accF s.h x s.h.n) (k) u)) :: Blk qlw s.h.nt (fun u => .int .i64 (rst s.h x (fun u => lstP (twB s.h x u) (s.h.n)) (s.h.n) u)) :: Blk qla s.h.nt (fun u => .int .i64 (rst s.h x (fun u => lstP (taB s.h x u) (s.h.n)) (s.h.n) u)) :: Blk qfw s.h.nt (fun u => .int .i64 (rst s.h x (fun u => fstP (twB s.h x u) (s.h.n)) (s.h.n) u)) :: Blk qfa s.h.nt (fun u => .int .i64 (rst s.h x (fun u => fstP (taB s.h x u) (s.h.n)) (s.h.n) u)) :: (Blk qd s.h.nt (fun u => .int .i64 ((xsF s.h u (s.h.n)).length : Int)) :: M)) := (((((((gm.cons _).cons _).cons _).cons _).cons _).cons _).cons _)
                                                                                    refine CE_seq ?_
                                                                                    refine CE_reg ?_
                                                                                    refine EL_p (Pu_lss rfl rfl) rfl ?_
                                                                                    refine EL_nil ?_
                                                                                    refine CE_seq ?_
                                                                                    refine CE_cP rfl (fun c649 => ?_) (fun c649 => ?_)
                                                                                    · have hkl : k < (s.G.Ra x).len := by omega
                                                                                      have hkl2 : k < (accF s.h x s.h.n).length := by omega
                                                                                      have hul := acc_lt ho hkl2
                                                                                      refine Exists.elim (H71.rblkM gmC.fa hitem (by omega)) (fun rb hrr => ?_)
                                                                                      have hrb := hrr.1
                                                                                      have hrv := hrr.2
                                                                                      refine CE_skip ?_
                                                                                      refine CE_seq ?_
                                                                                      refine CE_block ?_
                                                                                      refine CE_seq ?_
                                                                                      refine CE_reg ?_
                                                                                      refine EL_p (Pu_ix (congrArg some hrv) rfl sl24 rfl hkl) rfl ?_
                                                                                      refine EL_ld rfl fl21 ((H71.rcellM gmC.fa hitem hrb (i := k) (by omega)).trans (congrArg some (hacc.c k hkl2))) rfl ?_
                                                                                      refine EL_p (Pu_as rfl) rfl ?_
                                                                                      refine EL_nil ?_
                                                                                      refine CE_seq ?_
                                                                                      refine CE_reg ?_
                                                                                      refine EL_p (Pu_mv rfl) rfl ?_
                                                                                      refine EL_p (Pu_mv rfl) rfl ?_
                                                                                      refine EL_p (Pu_ix rfl rfl sl25 rfl hul) rfl ?_
                                                                                      refine EL_L0 (Lo_st (j := 1) (i := (accF s.h x s.h.n).getD k 0) H71 rfl rfl rfl fl4 rfl hul (fun v68 H72 => ?_))
                                                                                      refine EL_nil ?_
                                                                                      refine CE_reg ?_
                                                                                      refine EL_p (Pu_mv rfl) rfl ?_
                                                                                      refine EL_p (Pu_mv rfl) rfl ?_
                                                                                      refine EL_p (Pu_ix rfl rfl sl25 rfl hul) rfl ?_
                                                                                      refine EL_L0 (Lo_st (j := 0) (i := (accF s.h x s.h.n).getD k 0) H72 rfl rfl rfl fl4 rfl hul (fun v69 H73 => ?_))
                                                                                      refine EL_nil ?_
                                                                                      refine CE_reg ?_
                                                                                      refine EL_p (Pu_add rfl rfl (w64 (by omega))) rfl ?_
                                                                                      refine EL_p (Pu_mv rfl) rfl ?_
                                                                                      refine EL_nil ?_
                                                                                      exact ⟨k + 1, by omega, ⟨rfl, rfl, rfl, rfl, rfl, rfl, rfl, rfl, rfl, rfl, rfl, rfl, rfl, rfl, rfl, rfl, rfl, rfl, rfl, rfl, rfl, rfl, rfl, rfl, rfl, rfl, rfl, rfl, rfl, rfl, rfl, trivial⟩, hkl, (H73.congr (j := 1) rfl (setB (fun _ => rfl))).congr (j := 0) rfl (setB (fun _ => rfl))⟩
                                                                                    · have hke : k = (accF s.h x s.h.n).length := by omega
                                                                                      subst hke
                                                                                      refine CE_exit ?_
                                                                                      refine CE_seq ?_
                                                                                      refine CE_seq ?_
                                                                                      refine CE_reg ?_
                                                                                      refine EL_p (Pu_mv rfl) rfl ?_
                                                                                      refine EL_p (Pu_len rfl sl24 rfl) rfl ?_
                                                                                      refine EL_p (Pu_mv rfl) rfl ?_
                                                                                      refine EL_nil ?_
                                                                                      refine CE_block ?_
                                                                                      have H74 : HP w v67 (Blk qpr s.h.nt (fun u => .bool (clr (clr (mk (mk (fun _ => false) (accF s.h x s.h.n) 0 pa) (wrsF s.h x s.h.n) 0 pw) (accF s.h x s.h.n) (accF s.h x s.h.n).length) (wrsF s.h x s.h.n) (0) u)) :: Blk qsu s.h.nt (fun u => .bool (clr (clr (mk (mk (fun _ => false) (accF s.h x s.h.n) sa (accF s.h x s.h.n).length) (wrsF s.h x s.h.n) sw (wrsF s.h x s.h.n).length) (accF s.h x s.h.n) (accF s.h x s.h.n).length) (wrsF s.h x s.h.n) (0) u)) :: Blk qlw s.h.nt (fun u => .int .i64 (rst s.h x (fun u => lstP (twB s.h x u) (s.h.n)) (s.h.n) u)) :: Blk qla s.h.nt (fun u => .int .i64 (rst s.h x (fun u => lstP (taB s.h x u) (s.h.n)) (s.h.n) u)) :: Blk qfw s.h.nt (fun u => .int .i64 (rst s.h x (fun u => fstP (twB s.h x u) (s.h.n)) (s.h.n) u)) :: Blk qfa s.h.nt (fun u => .int .i64 (rst s.h x (fun u => fstP (taB s.h x u) (s.h.n)) (s.h.n) u)) :: (Blk qd s.h.nt (fun u => .int .i64 ((xsF s.h u (s.h.n)).length : Int)) :: M)) := H71
                                                                                      refine CE_loop (fun (k : Nat) w' => k ≤ (s.G.Rw x).len ∧ HP w w' (Blk qpr s.h.nt (fun u => .bool (clr (clr (mk (mk (fun _ => false) (accF s.h x s.h.n) 0 pa) (wrsF s.h x s.h.n) 0 pw) (accF s.h x s.h.n) (accF s.h x s.h.n).length) (wrsF s.h x s.h.n) (k) u)) :: Blk qsu s.h.nt (fun u => .bool (clr (clr (mk (mk (fun _ => false) (accF s.h x s.h.n) sa (accF s.h x s.h.n).length) (wrsF s.h x s.h.n) sw (wrsF s.h x s.h.n).length) (accF s.h x s.h.n) (accF s.h x s.h.n).length) (wrsF s.h x s.h.n) (k) u)) :: Blk qlw s.h.nt (fun u => .int .i64 (rst s.h x (fun u => lstP (twB s.h x u) (s.h.n)) (s.h.n) u)) :: Blk qla s.h.nt (fun u => .int .i64 (rst s.h x (fun u => lstP (taB s.h x u) (s.h.n)) (s.h.n) u)) :: Blk qfw s.h.nt (fun u => .int .i64 (rst s.h x (fun u => fstP (twB s.h x u) (s.h.n)) (s.h.n) u)) :: Blk qfa s.h.nt (fun u => .int .i64 (rst s.h x (fun u => fstP (taB s.h x u) (s.h.n)) (s.h.n) u)) :: (Blk qd s.h.nt (fun u => .int .i64 ((xsF s.h u (s.h.n)).length : Int)) :: M))) (fun k => [(0, aval s.B.z0 s.B.b0 s.h.n), (2, aval s.h.zt s.h.bt s.h.n), (3, aval s.h.zi s.h.bi s.h.n), (4, .int .i64 s.h.m), (5, aval s.h.za s.h.ba s.h.nt), (16, .pointer (some ⟨s.B.gb, 0, none⟩)), (17, .int .i64 s.h.n), (18, .int .i64 s.h.nt), (19, .slice (some ⟨qd, 0, none⟩) s.h.nt s.h.nt), (25, .slice (some ⟨s.B.ab, 0, none⟩) s.h.m s.h.m), (26, .slice (some ⟨s.B.wb, 0, none⟩) s.h.m s.h.m), (27, .slice (some ⟨qfa, 0, none⟩) s.h.nt s.h.nt), (28, .slice (some ⟨qfw, 0, none⟩) s.h.nt s.h.nt), (29, .slice (some ⟨qla, 0, none⟩) s.h.nt s.h.nt), (30, .slice (some ⟨qlw, 0, none⟩) s.h.nt s.h.nt), (32, .slice (some ⟨qsu, 0, none⟩) s.h.nt s.h.nt), (33, .slice (some ⟨qpr, 0, none⟩) s.h.nt s.h.nt), (34, .int .i64 t), (35, .int .i64 ((xsF s.h t s.h.n).length : Int)), (36, .int .i64 i), (37, .int .i32 x), (38, .int .i32 sa), (39, .int .i32 sw), (40, .int .i32 pa), (41, .int .i32 pw), (54, (s.G.Ra x).val), (55, (s.G.Rw x).val), (66, .bool true), (659, (s.G.Rw x).val), (660, .int .i64 (s.G.Rw x).len), (661, .int .i64 k)]) (fun k => (s.G.Rw x).len - k) 0 ⟨Nat.zero_le _, H74⟩ ⟨rfl, rfl, rfl, rfl, rfl, rfl, rfl, rfl, rfl, rfl, rfl, rfl, rfl, rfl, rfl, rfl, rfl, rfl, rfl, rfl, rfl, rfl, rfl, rfl, rfl, rfl, rfl, rfl, rfl, rfl, rfl, trivial⟩ ?_
                                                                                      clear H74
                                                                                      rintro k v70 ⟨hk, H74⟩
                                                                                      have gmC : GM s.h s.G s.B (Blk qpr s.h.nt (fun u => .bool (clr (clr (mk (mk (fun _ => false) (accF s.h x s.h.n) 0 pa) (wrsF s.h x s.h.n) 0 pw) (accF s.h x s.h.n) (accF s.h x s.h.n).length) (wrsF s.h x s.h.n) (k) u)) :: Blk qsu s.h.nt (fun u => .bool (clr (clr (mk (mk (fun _ => false) (accF s.h x s.h.n) sa (accF s.h x s.h.n).length) (wrsF s.h x s.h.n) sw (wrsF s.h x s.h.n).length) (accF s.h x s.h.n) (accF s.h x s.h.n).length) (wrsF s.h x s.h.n) (k) u)) :: Blk qlw s.h.nt (fun u => .int .i64 (rst s.h x (fun u => lstP (twB s.h x u) (s.h.n)) (s.h.n) u)) :: Blk qla s.h.nt (fun u => .int .i64 (rst s.h x (fun u => lstP (taB s.h x u) (s.h.n)) (s.h.n) u)) :: Blk qfw s.h.nt (fun u => .int .i64 (rst s.h x (fun u => fstP (twB s.h x u) (s.h.n)) (s.h.n) u)) :: Blk qfa s.h.nt (fun u => .int .i64 (rst s.h x (fun u => fstP (taB s.h x u) (s.h.n)) (s.h.n) u)) :: (Blk qd s.h.nt (fun u => .int .i64 ((xsF s.h u (s.h.n)).length : Int)) :: M)) := (((((((gm.cons _).cons _).cons _).cons _).cons _).cons _).cons _)
                                                                                      refine CE_seq ?_
                                                                                      refine CE_reg ?_
                                                                                      refine EL_p (Pu_lss rfl rfl) rfl ?_
                                                                                      refine EL_nil ?_
                                                                                      refine CE_seq ?_
                                                                                      refine CE_cP rfl (fun c662 => ?_) (fun c662 => ?_)
                                                                                      · have hkl : k < (s.G.Rw x).len := by omega
                                                                                        have hkl2 : k < (wrsF s.h x s.h.n).length := by omega
                                                                                        have hul := wrs_lt ho hkl2
                                                                                        refine Exists.elim (H74.rblkM gmC.fw hitem (by omega)) (fun rb hrr => ?_)
                                                                                        have hrb := hrr.1
                                                                                        have hrv := hrr.2
                                                                                        refine CE_skip ?_
                                                                                        refine CE_seq ?_
                                                                                        refine CE_block ?_
                                                                                        refine CE_seq ?_
                                                                                        refine CE_reg ?_
                                                                                        refine EL_p (Pu_ix (congrArg some hrv) rfl sl24 rfl hkl) rfl ?_
                                                                                        refine EL_ld rfl fl21 ((H74.rcellM gmC.fw hitem hrb (i := k) (by omega)).trans (congrArg some (hwrs.c k hkl2))) rfl ?_
                                                                                        refine EL_p (Pu_as rfl) rfl ?_
                                                                                        refine EL_nil ?_
                                                                                        refine CE_seq ?_
                                                                                        refine CE_reg ?_
                                                                                        refine EL_p (Pu_mv rfl) rfl ?_
                                                                                        refine EL_p (Pu_mv rfl) rfl ?_
                                                                                        refine EL_p (Pu_ix rfl rfl sl25 rfl hul) rfl ?_
                                                                                        refine EL_L0 (Lo_st (j := 1) (i := (wrsF s.h x s.h.n).getD k 0) H74 rfl rfl rfl fl4 rfl hul (fun v71 H75 => ?_))
                                                                                        refine EL_nil ?_
                                                                                        refine CE_reg ?_
                                                                                        refine EL_p (Pu_mv rfl) rfl ?_
                                                                                        refine EL_p (Pu_mv rfl) rfl ?_
                                                                                        refine EL_p (Pu_ix rfl rfl sl25 rfl hul) rfl ?_
                                                                                        refine EL_L0 (Lo_st (j := 0) (i := (wrsF s.h x s.h.n).getD k 0) H75 rfl rfl rfl fl4 rfl hul (fun v72 H76 => ?_))
                                                                                        refine EL_nil ?_
                                                                                        refine CE_reg ?_
                                                                                        refine EL_p (Pu_add rfl rfl (w64 (by omega))) rfl ?_
                                                                                        refine EL_p (Pu_mv rfl) rfl ?_
                                                                                        refine EL_nil ?_
                                                                                        exact ⟨k + 1, by omega, ⟨rfl, rfl, rfl, rfl, rfl, rfl, rfl, rfl, rfl, rfl, rfl, rfl, rfl, rfl, rfl, rfl, rfl, rfl, rfl, rfl, rfl, rfl, rfl, rfl, rfl, rfl, rfl, rfl, rfl, rfl, rfl, trivial⟩, hkl, (H76.congr (j := 1) rfl (setB (fun _ => rfl))).congr (j := 0) rfl (setB (fun _ => rfl))⟩
                                                                                      · have hke : k = (wrsF s.h x s.h.n).length := by omega
                                                                                        subst hke
                                                                                        refine CE_exit ?_
                                                                                        refine CE_seq ?_
                                                                                        refine CE_reg ?_
                                                                                        refine EL_p (Pu_mv rfl) rfl ?_
                                                                                        refine EL_p (Pu_not rfl) rfl ?_
                                                                                        refine EL_nil ?_
                                                                                        refine CE_cB rfl (fun c673 => ?_) (fun c673 => ?_)
                                                                                        · cases c673 --stop
                                                                                        · refine CE_skip ?_
                                                                                          refine CE_reg ?_
                                                                                          refine EL_p (Pu_mv rfl) rfl ?_
                                                                                          refine EL_p (Pu_add rfl rfl (w64 (by omega))) rfl ?_
                                                                                          refine EL_p (Pu_as rfl) rfl ?_
                                                                                          refine EL_nil ?_
                                                                                          have H77 : HP w v70 (Blk qpr s.h.nt (fun u => .bool (false)) :: Blk qsu s.h.nt (fun u => .bool (false)) :: Blk qlw s.h.nt (fun u => .int .i64 (-1)) :: Blk qla s.h.nt (fun u => .int .i64 (-1)) :: Blk qfw s.h.nt (fun u => .int .i64 (-1)) :: Blk qfa s.h.nt (fun u => .int .i64 (-1)) :: (Blk qd s.h.nt (fun u => .int .i64 ((xsF s.h u (s.h.n)).length : Int)) :: M)) := (((((H74.congr (j := 5) rfl (fun u _ => congrArg (fun z : Int => Value.int .i64 z) (rst_f (P := taB s.h x) (fun _ hh => hh)))).congr (j := 4) rfl (fun u _ => congrArg (fun z : Int => Value.int .i64 z) (rst_f (P := twB s.h x) (fun _ hh => ta_tw hh)))).congr (j := 3) rfl (fun u _ => congrArg (fun z : Int => Value.int .i64 z) (rst_l (P := taB s.h x) (fun _ hh => hh)))).congr (j := 2) rfl (fun u _ => congrArg (fun z : Int => Value.int .i64 z) (rst_l (P := twB s.h x) (fun _ hh => ta_tw hh)))).congr (j := 1) rfl (fun u _ => congrArg (fun z : Bool => Value.bool z) (su_clr u))).congr (j := 0) rfl (fun u _ => congrArg (fun z : Bool => Value.bool z) (pr_clr rg3 rg4 u))
                                                                                          exact ⟨i + 1, by omega, ⟨rfl, rfl, rfl, rfl, rfl, rfl, rfl, rfl, rfl, rfl, rfl, rfl, rfl, rfl, rfl, rfl, rfl, rfl, rfl, rfl, trivial⟩, hil, H77⟩
                                      · refine CE_exit ?_
                                        refine CE_reg ?_
                                        refine EL_p (Pu_mv rfl) rfl ?_
                                        refine EL_p (Pu_add rfl rfl (w64 (by omega))) rfl ?_
                                        refine EL_p (Pu_as rfl) rfl ?_
                                        refine EL_nil ?_
                                        exact ⟨t + 1, by omega, ⟨rfl, rfl, rfl, rfl, rfl, rfl, rfl, rfl, rfl, rfl, rfl, rfl, rfl, rfl, rfl, rfl, rfl, rfl, trivial⟩, htl, H37⟩
                                  · refine CE_exit ?_
                                    refine CE_seq ?_
                                    refine CE_reg ?_
                                    refine EL_p (Pu_as rfl) rfl ?_
                                    refine EL_nil ?_
                                    refine CE_ret ?_
                                    exact ⟨_, rfl, rfl, H35.below⟩
end Go.Proofs.Qxb6602549a
