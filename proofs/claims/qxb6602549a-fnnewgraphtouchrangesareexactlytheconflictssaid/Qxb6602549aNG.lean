/-
  newGraph, walked.
-/
import Derived.Test.Qxb6602549aNGc
namespace Go.Proofs.Qxb6602549a
open Go Go.RowKit
set_option linter.unusedSimpArgs false
set_option linter.unusedVariables false

theorem getD_mem {l : List Nat} {k : Nat} (hk : k < l.length) : l.getD k 0 ∈ l := by
  have : l.getD k 0 = l[k] := by simp [List.getD, hk]
  rw [this]; exact List.getElem_mem hk

theorem red_yes {nt t k : Nat} {l : List Nat} {base : Nat → List Nat} {Rq : Nat → Row} {ro : Row} (hRq : ∀ u, u < nt → RepI (Rq u) (base u ++ redges t u (l.take k))) (hk : k < l.length) (hne : l.getD k 0 ≠ t)
    (hro : RepI ro ((base (l.getD k 0) ++ redges t (l.getD k 0) (l.take k)) ++ [t])) : ∀ u, u < nt → RepI (updR Rq (l.getD k 0) ro u) (base u ++ redges t u (l.take (k + 1))) := by
  intro u hu
  rw [take_snoc hk, redges_snoc]
  by_cases h1 : u = l.getD k 0
  · subst h1
    rw [updR_self, if_pos ⟨rfl, hne⟩, ← List.append_assoc]; exact hro
  · rw [updR_ne _ _ h1, if_neg (fun hh => h1 hh.1.symm), List.append_nil]; exact hRq u hu
theorem red_no {nt t k : Nat} {l : List Nat} {base : Nat → List Nat} {Rq : Nat → Row} (hRq : ∀ u, u < nt → RepI (Rq u) (base u ++ redges t u (l.take k))) (hk : k < l.length) (hne : l.getD k 0 = t) :
    ∀ u, u < nt → RepI (Rq u) (base u ++ redges t u (l.take (k + 1))) := by
  intro u hu
  rw [take_snoc hk, redges_snoc, if_neg (fun hh => hh.2 hne), List.append_nil]; exact hRq u hu

def saF (h : HRec) (c : Tch) : Tch := { c with sa := if c.sa < 0 then ((accF h c.item h.n).length : Int) else c.sa }
def swF (h : HRec) (c : Tch) : Tch := { c with sw := if c.sw < 0 then ((wrsF h c.item h.n).length : Int) else c.sw }
theorem fin_comp (h : HRec) : (fun c => swF h (saF h c)) = finT h := rfl


set_option maxHeartbeats 2000000 in
theorem newGraph41 {W0 w : World} {L : List Chunk} {h : HRec} (H : HP W0 w L) (hin : InL h L) (ho : HOK h) :
    Calls Try.prog 41 #[.pointer (some ⟨h.hb, 0, none⟩)] w fun x w' => ∃ gb ab wb tb ub G, x = .returned (.pointer (some ⟨gb, 0, none⟩)) ∧ GInv h G ∧ HP W0 w' (GL h G gb ab wb tb ub L) := by
  have hom := ho.hm
  have hon := ho.hn
  have hont := ho.hnt
  refine calls_CE Try.func41 rfl Try.ntmps41 rfl rfl ?_
  refine CE_seq ?_
  refine CE_reg ?_
  refine EL_p (Pu_as rfl) rfl ?_
  refine EL_nil ?_
  refine CE_midG (fun (gb : Nat) => [(0, .pointer (some ⟨h.hb, 0, none⟩)), (3, .pointer (some ⟨gb, 0, none⟩))]) (fun gb w' => ∃ ab wb tb ub, HP W0 w' (Blk gb 6 (cellsF (gcl h nilv ab wb tb ub)) :: Blk ab h.m (fun _ => nilv) :: Blk wb h.m (fun _ => nilv) :: Blk tb h.nt (fun _ => nilv) :: Blk ub h.nt (fun _ => nilv) :: L)) ?_ (fun gb w2 hmid => ?_)
  · refine CE_drawM H (fun w => ∃ L1, InL h L1 ∧ HP W0 w L1) mixed (by kernel_rfl) (fun w1 H1 => ?_)
    have hS1 : ∃ L1, InL h L1 ∧ HP W0 w1 L1 := ⟨_, hin, H1⟩
    refine AM_p (i := 0) (by kernel_rfl) rfl hS1 (Pu.toIf (Pu_mv rfl)) rfl ?_
    refine AM_p (i := 1) (by kernel_rfl) rfl hS1 (Pu.toIf (Pu_mv rfl)) rfl ?_
    refine AM_p (i := 2) (by kernel_rfl) rfl hS1 (Pu.toIf (Pu_nil rfl)) rfl ?_
    refine AM_p (i := 3) (by kernel_rfl) rfl hS1 (Pu.toIf (Pu_fld rfl fi59_4)) rfl ?_
    refine AM_p (i := 4) (by kernel_rfl) rfl hS1 (Ld rfl fl3 (fun w ⟨L1, hi1, H1⟩ => H1.cellM hi1.mh (by decide))) rfl ?_
    refine AM_p (i := 6) (by kernel_rfl) rfl hS1 (Pu.toIf (Pu_mv rfl)) rfl ?_
    refine AM_p (i := 7) (by kernel_rfl) rfl hS1 (Pu.toIf (Pu_nil rfl)) rfl ?_
    refine AM_p (i := 8) (by kernel_rfl) rfl hS1 (Pu.toIf (Pu_fld rfl fi59_4)) rfl ?_
    refine AM_p (i := 9) (by kernel_rfl) rfl hS1 (Ld rfl fl3 (fun w ⟨L1, hi1, H1⟩ => H1.cellM hi1.mh (by decide))) rfl ?_
    refine AM_p (i := 11) (by kernel_rfl) rfl hS1 (Pu.toIf (Pu_mv rfl)) rfl ?_
    refine AM_p (i := 12) (by kernel_rfl) rfl hS1 (Pu.toIf (Pu_nil rfl)) rfl ?_
    refine AM_p (i := 13) (by kernel_rfl) rfl hS1 (Pu.toIf (Pu_fld rfl fi59_1)) rfl ?_
    refine AM_p (i := 14) (by kernel_rfl) rfl hS1 (Ld rfl fl23 (fun w ⟨L1, hi1, H1⟩ => H1.cellM hi1.mh (by decide))) rfl ?_
    refine AM_p (i := 15) (by kernel_rfl) rfl hS1 (Pu.toIf (Pu_len rfl sl23 rfl)) rfl ?_
    refine AM_p (i := 17) (by kernel_rfl) rfl hS1 (Pu.toIf (Pu_mv rfl)) rfl ?_
    refine AM_p (i := 18) (by kernel_rfl) rfl hS1 (Pu.toIf (Pu_nil rfl)) rfl ?_
    refine AM_p (i := 19) (by kernel_rfl) rfl hS1 (Pu.toIf (Pu_fld rfl fi59_1)) rfl ?_
    refine AM_p (i := 20) (by kernel_rfl) rfl hS1 (Ld rfl fl23 (fun w ⟨L1, hi1, H1⟩ => H1.cellM hi1.mh (by decide))) rfl ?_
    refine AM_p (i := 21) (by kernel_rfl) rfl hS1 (Pu.toIf (Pu_len rfl sl23 rfl)) rfl ?_
    refine AM_f4 (i := 5) (j := 10) (k := 16) (l := 22) (by kernel_rfl) ?_ ?_ ?_ ?_
    · refine AS_L rfl rfl (Lo_make1 (c := h.m) H1 rfl rfl rfl Try.underlying41 ze24 rfl (by omega) (by omega) (fun ab w2 H2 => ⟨⟨_, (hin.cons _), H2⟩, ?_⟩))
      refine AM_f3 (i := 10) (j := 16) (k := 22) (by kernel_rfl) ?_ ?_ ?_
      · refine AS_L rfl rfl (Lo_make1 (c := h.m) H2 rfl rfl rfl Try.underlying41 ze24 rfl (by omega) (by omega) (fun wb w3 H3 => ⟨⟨_, ((hin.cons _).cons _), H3⟩, ?_⟩))
        refine AM_f2 (i := 16) (j := 22) (by kernel_rfl) ?_ ?_
        · refine AS_L rfl rfl (Lo_make1 (c := h.nt) H3 rfl rfl rfl Try.underlying63 ze66 rfl (by omega) (by omega) (fun tb w4 H4 => ⟨⟨_, (((hin.cons _).cons _).cons _), H4⟩, ?_⟩))
          refine AM_f1 (i := 22) (by kernel_rfl) ?_
          · refine AS_L rfl rfl (Lo_make1 (c := h.nt) H4 rfl rfl rfl Try.underlying41 ze24 rfl (by omega) (by omega) (fun ub w5 H5 => ⟨⟨_, ((((hin.cons _).cons _).cons _).cons _), H5⟩, ?_⟩))
            refine AM_p (i := 23) (by kernel_rfl) rfl ⟨_, ((((hin.cons _).cons _).cons _).cons _), H5⟩ (Pu.toIf (Pu_build65 rfl rfl rfl rfl rfl rfl rfl rfl rfl rfl)) rfl ?_
            refine AM_f1 (i := 24) (by kernel_rfl) (AS_L rfl rfl (Lo_box (cs := [.pointer (some ⟨h.hb, 0, none⟩), .slice none 0 0, .slice (some ⟨ab, 0, none⟩) h.m h.m, .slice (some ⟨wb, 0, none⟩) h.m h.m, .slice (some ⟨tb, 0, none⟩) h.nt h.nt, .slice (some ⟨ub, 0, none⟩) h.nt h.nt]) H5 rfl rfl (fun gb w6 H6 => ⟨⟨_, (((((hin.cons _).cons _).cons _).cons _).cons _), H6⟩, ?_⟩)))
            refine AM_p (i := 25) (by kernel_rfl) rfl ⟨_, (((((hin.cons _).cons _).cons _).cons _).cons _), H6⟩ (Pu.toIf (Pu_as rfl)) rfl ?_
            refine AM_nil (by kernel_rfl) ?_
            exact ⟨gb, ⟨ab, wb, tb, ub, ((((((H6.swapAt 1).swapAt 2).swapAt 3).swapAt 1).swapAt 2).swapAt 1)⟩, rfl, rfl, trivial⟩
        · refine AS_L rfl rfl (Lo_make1 (c := h.nt) H3 rfl rfl rfl Try.underlying41 ze24 rfl (by omega) (by omega) (fun ub w4 H4 => ⟨⟨_, (((hin.cons _).cons _).cons _), H4⟩, ?_⟩))
          refine AM_f1 (i := 16) (by kernel_rfl) ?_
          · refine AS_L rfl rfl (Lo_make1 (c := h.nt) H4 rfl rfl rfl Try.underlying63 ze66 rfl (by omega) (by omega) (fun tb w5 H5 => ⟨⟨_, ((((hin.cons _).cons _).cons _).cons _), H5⟩, ?_⟩))
            refine AM_p (i := 23) (by kernel_rfl) rfl ⟨_, ((((hin.cons _).cons _).cons _).cons _), H5⟩ (Pu.toIf (Pu_build65 rfl rfl rfl rfl rfl rfl rfl rfl rfl rfl)) rfl ?_
            refine AM_f1 (i := 24) (by kernel_rfl) (AS_L rfl rfl (Lo_box (cs := [.pointer (some ⟨h.hb, 0, none⟩), .slice none 0 0, .slice (some ⟨ab, 0, none⟩) h.m h.m, .slice (some ⟨wb, 0, none⟩) h.m h.m, .slice (some ⟨tb, 0, none⟩) h.nt h.nt, .slice (some ⟨ub, 0, none⟩) h.nt h.nt]) H5 rfl rfl (fun gb w6 H6 => ⟨⟨_, (((((hin.cons _).cons _).cons _).cons _).cons _), H6⟩, ?_⟩)))
            refine AM_p (i := 25) (by kernel_rfl) rfl ⟨_, (((((hin.cons _).cons _).cons _).cons _).cons _), H6⟩ (Pu.toIf (Pu_as rfl)) rfl ?_
            refine AM_nil (by kernel_rfl) ?_
            exact ⟨gb, ⟨ab, wb, tb, ub, (((((H6.swapAt 2).swapAt 3).swapAt 1).swapAt 2).swapAt 1)⟩, rfl, rfl, trivial⟩
      · refine AS_L rfl rfl (Lo_make1 (c := h.nt) H2 rfl rfl rfl Try.underlying63 ze66 rfl (by omega) (by omega) (fun tb w3 H3 => ⟨⟨_, ((hin.cons _).cons _), H3⟩, ?_⟩))
        refine AM_f2 (i := 10) (j := 22) (by kernel_rfl) ?_ ?_
        · refine AS_L rfl rfl (Lo_make1 (c := h.m) H3 rfl rfl rfl Try.underlying41 ze24 rfl (by omega) (by omega) (fun wb w4 H4 => ⟨⟨_, (((hin.cons _).cons _).cons _), H4⟩, ?_⟩))
          refine AM_f1 (i := 22) (by kernel_rfl) ?_
          · refine AS_L rfl rfl (Lo_make1 (c := h.nt) H4 rfl rfl rfl Try.underlying41 ze24 rfl (by omega) (by omega) (fun ub w5 H5 => ⟨⟨_, ((((hin.cons _).cons _).cons _).cons _), H5⟩, ?_⟩))
            refine AM_p (i := 23) (by kernel_rfl) rfl ⟨_, ((((hin.cons _).cons _).cons _).cons _), H5⟩ (Pu.toIf (Pu_build65 rfl rfl rfl rfl rfl rfl rfl rfl rfl rfl)) rfl ?_
            refine AM_f1 (i := 24) (by kernel_rfl) (AS_L rfl rfl (Lo_box (cs := [.pointer (some ⟨h.hb, 0, none⟩), .slice none 0 0, .slice (some ⟨ab, 0, none⟩) h.m h.m, .slice (some ⟨wb, 0, none⟩) h.m h.m, .slice (some ⟨tb, 0, none⟩) h.nt h.nt, .slice (some ⟨ub, 0, none⟩) h.nt h.nt]) H5 rfl rfl (fun gb w6 H6 => ⟨⟨_, (((((hin.cons _).cons _).cons _).cons _).cons _), H6⟩, ?_⟩)))
            refine AM_p (i := 25) (by kernel_rfl) rfl ⟨_, (((((hin.cons _).cons _).cons _).cons _).cons _), H6⟩ (Pu.toIf (Pu_as rfl)) rfl ?_
            refine AM_nil (by kernel_rfl) ?_
            exact ⟨gb, ⟨ab, wb, tb, ub, (((((H6.swapAt 1).swapAt 2).swapAt 3).swapAt 2).swapAt 1)⟩, rfl, rfl, trivial⟩
        · refine AS_L rfl rfl (Lo_make1 (c := h.nt) H3 rfl rfl rfl Try.underlying41 ze24 rfl (by omega) (by omega) (fun ub w4 H4 => ⟨⟨_, (((hin.cons _).cons _).cons _), H4⟩, ?_⟩))
          refine AM_f1 (i := 10) (by kernel_rfl) ?_
          · refine AS_L rfl rfl (Lo_make1 (c := h.m) H4 rfl rfl rfl Try.underlying41 ze24 rfl (by omega) (by omega) (fun wb w5 H5 => ⟨⟨_, ((((hin.cons _).cons _).cons _).cons _), H5⟩, ?_⟩))
            refine AM_p (i := 23) (by kernel_rfl) rfl ⟨_, ((((hin.cons _).cons _).cons _).cons _), H5⟩ (Pu.toIf (Pu_build65 rfl rfl rfl rfl rfl rfl rfl rfl rfl rfl)) rfl ?_
            refine AM_f1 (i := 24) (by kernel_rfl) (AS_L rfl rfl (Lo_box (cs := [.pointer (some ⟨h.hb, 0, none⟩), .slice none 0 0, .slice (some ⟨ab, 0, none⟩) h.m h.m, .slice (some ⟨wb, 0, none⟩) h.m h.m, .slice (some ⟨tb, 0, none⟩) h.nt h.nt, .slice (some ⟨ub, 0, none⟩) h.nt h.nt]) H5 rfl rfl (fun gb w6 H6 => ⟨⟨_, (((((hin.cons _).cons _).cons _).cons _).cons _), H6⟩, ?_⟩)))
            refine AM_p (i := 25) (by kernel_rfl) rfl ⟨_, (((((hin.cons _).cons _).cons _).cons _).cons _), H6⟩ (Pu.toIf (Pu_as rfl)) rfl ?_
            refine AM_nil (by kernel_rfl) ?_
            exact ⟨gb, ⟨ab, wb, tb, ub, ((((H6.swapAt 2).swapAt 3).swapAt 2).swapAt 1)⟩, rfl, rfl, trivial⟩
      · refine AS_L rfl rfl (Lo_make1 (c := h.nt) H2 rfl rfl rfl Try.underlying41 ze24 rfl (by omega) (by omega) (fun ub w3 H3 => ⟨⟨_, ((hin.cons _).cons _), H3⟩, ?_⟩))
        refine AM_f2 (i := 10) (j := 16) (by kernel_rfl) ?_ ?_
        · refine AS_L rfl rfl (Lo_make1 (c := h.m) H3 rfl rfl rfl Try.underlying41 ze24 rfl (by omega) (by omega) (fun wb w4 H4 => ⟨⟨_, (((hin.cons _).cons _).cons _), H4⟩, ?_⟩))
          refine AM_f1 (i := 16) (by kernel_rfl) ?_
          · refine AS_L rfl rfl (Lo_make1 (c := h.nt) H4 rfl rfl rfl Try.underlying63 ze66 rfl (by omega) (by omega) (fun tb w5 H5 => ⟨⟨_, ((((hin.cons _).cons _).cons _).cons _), H5⟩, ?_⟩))
            refine AM_p (i := 23) (by kernel_rfl) rfl ⟨_, ((((hin.cons _).cons _).cons _).cons _), H5⟩ (Pu.toIf (Pu_build65 rfl rfl rfl rfl rfl rfl rfl rfl rfl rfl)) rfl ?_
            refine AM_f1 (i := 24) (by kernel_rfl) (AS_L rfl rfl (Lo_box (cs := [.pointer (some ⟨h.hb, 0, none⟩), .slice none 0 0, .slice (some ⟨ab, 0, none⟩) h.m h.m, .slice (some ⟨wb, 0, none⟩) h.m h.m, .slice (some ⟨tb, 0, none⟩) h.nt h.nt, .slice (some ⟨ub, 0, none⟩) h.nt h.nt]) H5 rfl rfl (fun gb w6 H6 => ⟨⟨_, (((((hin.cons _).cons _).cons _).cons _).cons _), H6⟩, ?_⟩)))
            refine AM_p (i := 25) (by kernel_rfl) rfl ⟨_, (((((hin.cons _).cons _).cons _).cons _).cons _), H6⟩ (Pu.toIf (Pu_as rfl)) rfl ?_
            refine AM_nil (by kernel_rfl) ?_
            exact ⟨gb, ⟨ab, wb, tb, ub, ((((H6.swapAt 1).swapAt 3).swapAt 2).swapAt 1)⟩, rfl, rfl, trivial⟩
        · refine AS_L rfl rfl (Lo_make1 (c := h.nt) H3 rfl rfl rfl Try.underlying63 ze66 rfl (by omega) (by omega) (fun tb w4 H4 => ⟨⟨_, (((hin.cons _).cons _).cons _), H4⟩, ?_⟩))
          refine AM_f1 (i := 10) (by kernel_rfl) ?_
          · refine AS_L rfl rfl (Lo_make1 (c := h.m) H4 rfl rfl rfl Try.underlying41 ze24 rfl (by omega) (by omega) (fun wb w5 H5 => ⟨⟨_, ((((hin.cons _).cons _).cons _).cons _), H5⟩, ?_⟩))
            refine AM_p (i := 23) (by kernel_rfl) rfl ⟨_, ((((hin.cons _).cons _).cons _).cons _), H5⟩ (Pu.toIf (Pu_build65 rfl rfl rfl rfl rfl rfl rfl rfl rfl rfl)) rfl ?_
            refine AM_f1 (i := 24) (by kernel_rfl) (AS_L rfl rfl (Lo_box (cs := [.pointer (some ⟨h.hb, 0, none⟩), .slice none 0 0, .slice (some ⟨ab, 0, none⟩) h.m h.m, .slice (some ⟨wb, 0, none⟩) h.m h.m, .slice (some ⟨tb, 0, none⟩) h.nt h.nt, .slice (some ⟨ub, 0, none⟩) h.nt h.nt]) H5 rfl rfl (fun gb w6 H6 => ⟨⟨_, (((((hin.cons _).cons _).cons _).cons _).cons _), H6⟩, ?_⟩)))
            refine AM_p (i := 25) (by kernel_rfl) rfl ⟨_, (((((hin.cons _).cons _).cons _).cons _).cons _), H6⟩ (Pu.toIf (Pu_as rfl)) rfl ?_
            refine AM_nil (by kernel_rfl) ?_
            exact ⟨gb, ⟨ab, wb, tb, ub, (((H6.swapAt 3).swapAt 2).swapAt 1)⟩, rfl, rfl, trivial⟩
    · refine AS_L rfl rfl (Lo_make1 (c := h.m) H1 rfl rfl rfl Try.underlying41 ze24 rfl (by omega) (by omega) (fun wb w2 H2 => ⟨⟨_, (hin.cons _), H2⟩, ?_⟩))
      refine AM_f3 (i := 5) (j := 16) (k := 22) (by kernel_rfl) ?_ ?_ ?_
      · refine AS_L rfl rfl (Lo_make1 (c := h.m) H2 rfl rfl rfl Try.underlying41 ze24 rfl (by omega) (by omega) (fun ab w3 H3 => ⟨⟨_, ((hin.cons _).cons _), H3⟩, ?_⟩))
        refine AM_f2 (i := 16) (j := 22) (by kernel_rfl) ?_ ?_
        · refine AS_L rfl rfl (Lo_make1 (c := h.nt) H3 rfl rfl rfl Try.underlying63 ze66 rfl (by omega) (by omega) (fun tb w4 H4 => ⟨⟨_, (((hin.cons _).cons _).cons _), H4⟩, ?_⟩))
          refine AM_f1 (i := 22) (by kernel_rfl) ?_
          · refine AS_L rfl rfl (Lo_make1 (c := h.nt) H4 rfl rfl rfl Try.underlying41 ze24 rfl (by omega) (by omega) (fun ub w5 H5 => ⟨⟨_, ((((hin.cons _).cons _).cons _).cons _), H5⟩, ?_⟩))
            refine AM_p (i := 23) (by kernel_rfl) rfl ⟨_, ((((hin.cons _).cons _).cons _).cons _), H5⟩ (Pu.toIf (Pu_build65 rfl rfl rfl rfl rfl rfl rfl rfl rfl rfl)) rfl ?_
            refine AM_f1 (i := 24) (by kernel_rfl) (AS_L rfl rfl (Lo_box (cs := [.pointer (some ⟨h.hb, 0, none⟩), .slice none 0 0, .slice (some ⟨ab, 0, none⟩) h.m h.m, .slice (some ⟨wb, 0, none⟩) h.m h.m, .slice (some ⟨tb, 0, none⟩) h.nt h.nt, .slice (some ⟨ub, 0, none⟩) h.nt h.nt]) H5 rfl rfl (fun gb w6 H6 => ⟨⟨_, (((((hin.cons _).cons _).cons _).cons _).cons _), H6⟩, ?_⟩)))
            refine AM_p (i := 25) (by kernel_rfl) rfl ⟨_, (((((hin.cons _).cons _).cons _).cons _).cons _), H6⟩ (Pu.toIf (Pu_as rfl)) rfl ?_
            refine AM_nil (by kernel_rfl) ?_
            exact ⟨gb, ⟨ab, wb, tb, ub, (((((H6.swapAt 1).swapAt 2).swapAt 3).swapAt 1).swapAt 2)⟩, rfl, rfl, trivial⟩
        · refine AS_L rfl rfl (Lo_make1 (c := h.nt) H3 rfl rfl rfl Try.underlying41 ze24 rfl (by omega) (by omega) (fun ub w4 H4 => ⟨⟨_, (((hin.cons _).cons _).cons _), H4⟩, ?_⟩))
          refine AM_f1 (i := 16) (by kernel_rfl) ?_
          · refine AS_L rfl rfl (Lo_make1 (c := h.nt) H4 rfl rfl rfl Try.underlying63 ze66 rfl (by omega) (by omega) (fun tb w5 H5 => ⟨⟨_, ((((hin.cons _).cons _).cons _).cons _), H5⟩, ?_⟩))
            refine AM_p (i := 23) (by kernel_rfl) rfl ⟨_, ((((hin.cons _).cons _).cons _).cons _), H5⟩ (Pu.toIf (Pu_build65 rfl rfl rfl rfl rfl rfl rfl rfl rfl rfl)) rfl ?_
            refine AM_f1 (i := 24) (by kernel_rfl) (AS_L rfl rfl (Lo_box (cs := [.pointer (some ⟨h.hb, 0, none⟩), .slice none 0 0, .slice (some ⟨ab, 0, none⟩) h.m h.m, .slice (some ⟨wb, 0, none⟩) h.m h.m, .slice (some ⟨tb, 0, none⟩) h.nt h.nt, .slice (some ⟨ub, 0, none⟩) h.nt h.nt]) H5 rfl rfl (fun gb w6 H6 => ⟨⟨_, (((((hin.cons _).cons _).cons _).cons _).cons _), H6⟩, ?_⟩)))
            refine AM_p (i := 25) (by kernel_rfl) rfl ⟨_, (((((hin.cons _).cons _).cons _).cons _).cons _), H6⟩ (Pu.toIf (Pu_as rfl)) rfl ?_
            refine AM_nil (by kernel_rfl) ?_
            exact ⟨gb, ⟨ab, wb, tb, ub, ((((H6.swapAt 2).swapAt 3).swapAt 1).swapAt 2)⟩, rfl, rfl, trivial⟩
      · refine AS_L rfl rfl (Lo_make1 (c := h.nt) H2 rfl rfl rfl Try.underlying63 ze66 rfl (by omega) (by omega) (fun tb w3 H3 => ⟨⟨_, ((hin.cons _).cons _), H3⟩, ?_⟩))
        refine AM_f2 (i := 5) (j := 22) (by kernel_rfl) ?_ ?_
        · refine AS_L rfl rfl (Lo_make1 (c := h.m) H3 rfl rfl rfl Try.underlying41 ze24 rfl (by omega) (by omega) (fun ab w4 H4 => ⟨⟨_, (((hin.cons _).cons _).cons _), H4⟩, ?_⟩))
          refine AM_f1 (i := 22) (by kernel_rfl) ?_
          · refine AS_L rfl rfl (Lo_make1 (c := h.nt) H4 rfl rfl rfl Try.underlying41 ze24 rfl (by omega) (by omega) (fun ub w5 H5 => ⟨⟨_, ((((hin.cons _).cons _).cons _).cons _), H5⟩, ?_⟩))
            refine AM_p (i := 23) (by kernel_rfl) rfl ⟨_, ((((hin.cons _).cons _).cons _).cons _), H5⟩ (Pu.toIf (Pu_build65 rfl rfl rfl rfl rfl rfl rfl rfl rfl rfl)) rfl ?_
            refine AM_f1 (i := 24) (by kernel_rfl) (AS_L rfl rfl (Lo_box (cs := [.pointer (some ⟨h.hb, 0, none⟩), .slice none 0 0, .slice (some ⟨ab, 0, none⟩) h.m h.m, .slice (some ⟨wb, 0, none⟩) h.m h.m, .slice (some ⟨tb, 0, none⟩) h.nt h.nt, .slice (some ⟨ub, 0, none⟩) h.nt h.nt]) H5 rfl rfl (fun gb w6 H6 => ⟨⟨_, (((((hin.cons _).cons _).cons _).cons _).cons _), H6⟩, ?_⟩)))
            refine AM_p (i := 25) (by kernel_rfl) rfl ⟨_, (((((hin.cons _).cons _).cons _).cons _).cons _), H6⟩ (Pu.toIf (Pu_as rfl)) rfl ?_
            refine AM_nil (by kernel_rfl) ?_
            exact ⟨gb, ⟨ab, wb, tb, ub, ((((H6.swapAt 1).swapAt 2).swapAt 3).swapAt 2)⟩, rfl, rfl, trivial⟩
        · refine AS_L rfl rfl (Lo_make1 (c := h.nt) H3 rfl rfl rfl Try.underlying41 ze24 rfl (by omega) (by omega) (fun ub w4 H4 => ⟨⟨_, (((hin.cons _).cons _).cons _), H4⟩, ?_⟩))
          refine AM_f1 (i := 5) (by kernel_rfl) ?_
          · refine AS_L rfl rfl (Lo_make1 (c := h.m) H4 rfl rfl rfl Try.underlying41 ze24 rfl (by omega) (by omega) (fun ab w5 H5 => ⟨⟨_, ((((hin.cons _).cons _).cons _).cons _), H5⟩, ?_⟩))
            refine AM_p (i := 23) (by kernel_rfl) rfl ⟨_, ((((hin.cons _).cons _).cons _).cons _), H5⟩ (Pu.toIf (Pu_build65 rfl rfl rfl rfl rfl rfl rfl rfl rfl rfl)) rfl ?_
            refine AM_f1 (i := 24) (by kernel_rfl) (AS_L rfl rfl (Lo_box (cs := [.pointer (some ⟨h.hb, 0, none⟩), .slice none 0 0, .slice (some ⟨ab, 0, none⟩) h.m h.m, .slice (some ⟨wb, 0, none⟩) h.m h.m, .slice (some ⟨tb, 0, none⟩) h.nt h.nt, .slice (some ⟨ub, 0, none⟩) h.nt h.nt]) H5 rfl rfl (fun gb w6 H6 => ⟨⟨_, (((((hin.cons _).cons _).cons _).cons _).cons _), H6⟩, ?_⟩)))
            refine AM_p (i := 25) (by kernel_rfl) rfl ⟨_, (((((hin.cons _).cons _).cons _).cons _).cons _), H6⟩ (Pu.toIf (Pu_as rfl)) rfl ?_
            refine AM_nil (by kernel_rfl) ?_
            exact ⟨gb, ⟨ab, wb, tb, ub, (((H6.swapAt 2).swapAt 3).swapAt 2)⟩, rfl, rfl, trivial⟩
      · refine AS_L rfl rfl (Lo_make1 (c := h.nt) H2 rfl rfl rfl Try.underlying41 ze24 rfl (by omega) (by omega) (fun ub w3 H3 => ⟨⟨_, ((hin.cons _).cons _), H3⟩, ?_⟩))
        refine AM_f2 (i := 5) (j := 16) (by kernel_rfl) ?_ ?_
        · refine AS_L rfl rfl (Lo_make1 (c := h.m) H3 rfl rfl rfl Try.underlying41 ze24 rfl (by omega) (by omega) (fun ab w4 H4 => ⟨⟨_, (((hin.cons _).cons _).cons _), H4⟩, ?_⟩))
          refine AM_f1 (i := 16) (by kernel_rfl) ?_
          · refine AS_L rfl rfl (Lo_make1 (c := h.nt) H4 rfl rfl rfl Try.underlying63 ze66 rfl (by omega) (by omega) (fun tb w5 H5 => ⟨⟨_, ((((hin.cons _).cons _).cons _).cons _), H5⟩, ?_⟩))
            refine AM_p (i := 23) (by kernel_rfl) rfl ⟨_, ((((hin.cons _).cons _).cons _).cons _), H5⟩ (Pu.toIf (Pu_build65 rfl rfl rfl rfl rfl rfl rfl rfl rfl rfl)) rfl ?_
            refine AM_f1 (i := 24) (by kernel_rfl) (AS_L rfl rfl (Lo_box (cs := [.pointer (some ⟨h.hb, 0, none⟩), .slice none 0 0, .slice (some ⟨ab, 0, none⟩) h.m h.m, .slice (some ⟨wb, 0, none⟩) h.m h.m, .slice (some ⟨tb, 0, none⟩) h.nt h.nt, .slice (some ⟨ub, 0, none⟩) h.nt h.nt]) H5 rfl rfl (fun gb w6 H6 => ⟨⟨_, (((((hin.cons _).cons _).cons _).cons _).cons _), H6⟩, ?_⟩)))
            refine AM_p (i := 25) (by kernel_rfl) rfl ⟨_, (((((hin.cons _).cons _).cons _).cons _).cons _), H6⟩ (Pu.toIf (Pu_as rfl)) rfl ?_
            refine AM_nil (by kernel_rfl) ?_
            exact ⟨gb, ⟨ab, wb, tb, ub, (((H6.swapAt 1).swapAt 3).swapAt 2)⟩, rfl, rfl, trivial⟩
        · refine AS_L rfl rfl (Lo_make1 (c := h.nt) H3 rfl rfl rfl Try.underlying63 ze66 rfl (by omega) (by omega) (fun tb w4 H4 => ⟨⟨_, (((hin.cons _).cons _).cons _), H4⟩, ?_⟩))
          refine AM_f1 (i := 5) (by kernel_rfl) ?_
          · refine AS_L rfl rfl (Lo_make1 (c := h.m) H4 rfl rfl rfl Try.underlying41 ze24 rfl (by omega) (by omega) (fun ab w5 H5 => ⟨⟨_, ((((hin.cons _).cons _).cons _).cons _), H5⟩, ?_⟩))
            refine AM_p (i := 23) (by kernel_rfl) rfl ⟨_, ((((hin.cons _).cons _).cons _).cons _), H5⟩ (Pu.toIf (Pu_build65 rfl rfl rfl rfl rfl rfl rfl rfl rfl rfl)) rfl ?_
            refine AM_f1 (i := 24) (by kernel_rfl) (AS_L rfl rfl (Lo_box (cs := [.pointer (some ⟨h.hb, 0, none⟩), .slice none 0 0, .slice (some ⟨ab, 0, none⟩) h.m h.m, .slice (some ⟨wb, 0, none⟩) h.m h.m, .slice (some ⟨tb, 0, none⟩) h.nt h.nt, .slice (some ⟨ub, 0, none⟩) h.nt h.nt]) H5 rfl rfl (fun gb w6 H6 => ⟨⟨_, (((((hin.cons _).cons _).cons _).cons _).cons _), H6⟩, ?_⟩)))
            refine AM_p (i := 25) (by kernel_rfl) rfl ⟨_, (((((hin.cons _).cons _).cons _).cons _).cons _), H6⟩ (Pu.toIf (Pu_as rfl)) rfl ?_
            refine AM_nil (by kernel_rfl) ?_
            exact ⟨gb, ⟨ab, wb, tb, ub, ((H6.swapAt 3).swapAt 2)⟩, rfl, rfl, trivial⟩
    · refine AS_L rfl rfl (Lo_make1 (c := h.nt) H1 rfl rfl rfl Try.underlying63 ze66 rfl (by omega) (by omega) (fun tb w2 H2 => ⟨⟨_, (hin.cons _), H2⟩, ?_⟩))
      refine AM_f3 (i := 5) (j := 10) (k := 22) (by kernel_rfl) ?_ ?_ ?_
      · refine AS_L rfl rfl (Lo_make1 (c := h.m) H2 rfl rfl rfl Try.underlying41 ze24 rfl (by omega) (by omega) (fun ab w3 H3 => ⟨⟨_, ((hin.cons _).cons _), H3⟩, ?_⟩))
        refine AM_f2 (i := 10) (j := 22) (by kernel_rfl) ?_ ?_
        · refine AS_L rfl rfl (Lo_make1 (c := h.m) H3 rfl rfl rfl Try.underlying41 ze24 rfl (by omega) (by omega) (fun wb w4 H4 => ⟨⟨_, (((hin.cons _).cons _).cons _), H4⟩, ?_⟩))
          refine AM_f1 (i := 22) (by kernel_rfl) ?_
          · refine AS_L rfl rfl (Lo_make1 (c := h.nt) H4 rfl rfl rfl Try.underlying41 ze24 rfl (by omega) (by omega) (fun ub w5 H5 => ⟨⟨_, ((((hin.cons _).cons _).cons _).cons _), H5⟩, ?_⟩))
            refine AM_p (i := 23) (by kernel_rfl) rfl ⟨_, ((((hin.cons _).cons _).cons _).cons _), H5⟩ (Pu.toIf (Pu_build65 rfl rfl rfl rfl rfl rfl rfl rfl rfl rfl)) rfl ?_
            refine AM_f1 (i := 24) (by kernel_rfl) (AS_L rfl rfl (Lo_box (cs := [.pointer (some ⟨h.hb, 0, none⟩), .slice none 0 0, .slice (some ⟨ab, 0, none⟩) h.m h.m, .slice (some ⟨wb, 0, none⟩) h.m h.m, .slice (some ⟨tb, 0, none⟩) h.nt h.nt, .slice (some ⟨ub, 0, none⟩) h.nt h.nt]) H5 rfl rfl (fun gb w6 H6 => ⟨⟨_, (((((hin.cons _).cons _).cons _).cons _).cons _), H6⟩, ?_⟩)))
            refine AM_p (i := 25) (by kernel_rfl) rfl ⟨_, (((((hin.cons _).cons _).cons _).cons _).cons _), H6⟩ (Pu.toIf (Pu_as rfl)) rfl ?_
            refine AM_nil (by kernel_rfl) ?_
            exact ⟨gb, ⟨ab, wb, tb, ub, ((((H6.swapAt 1).swapAt 2).swapAt 3).swapAt 1)⟩, rfl, rfl, trivial⟩
        · refine AS_L rfl rfl (Lo_make1 (c := h.nt) H3 rfl rfl rfl Try.underlying41 ze24 rfl (by omega) (by omega) (fun ub w4 H4 => ⟨⟨_, (((hin.cons _).cons _).cons _), H4⟩, ?_⟩))
          refine AM_f1 (i := 10) (by kernel_rfl) ?_
          · refine AS_L rfl rfl (Lo_make1 (c := h.m) H4 rfl rfl rfl Try.underlying41 ze24 rfl (by omega) (by omega) (fun wb w5 H5 => ⟨⟨_, ((((hin.cons _).cons _).cons _).cons _), H5⟩, ?_⟩))
            refine AM_p (i := 23) (by kernel_rfl) rfl ⟨_, ((((hin.cons _).cons _).cons _).cons _), H5⟩ (Pu.toIf (Pu_build65 rfl rfl rfl rfl rfl rfl rfl rfl rfl rfl)) rfl ?_
            refine AM_f1 (i := 24) (by kernel_rfl) (AS_L rfl rfl (Lo_box (cs := [.pointer (some ⟨h.hb, 0, none⟩), .slice none 0 0, .slice (some ⟨ab, 0, none⟩) h.m h.m, .slice (some ⟨wb, 0, none⟩) h.m h.m, .slice (some ⟨tb, 0, none⟩) h.nt h.nt, .slice (some ⟨ub, 0, none⟩) h.nt h.nt]) H5 rfl rfl (fun gb w6 H6 => ⟨⟨_, (((((hin.cons _).cons _).cons _).cons _).cons _), H6⟩, ?_⟩)))
            refine AM_p (i := 25) (by kernel_rfl) rfl ⟨_, (((((hin.cons _).cons _).cons _).cons _).cons _), H6⟩ (Pu.toIf (Pu_as rfl)) rfl ?_
            refine AM_nil (by kernel_rfl) ?_
            exact ⟨gb, ⟨ab, wb, tb, ub, (((H6.swapAt 2).swapAt 3).swapAt 1)⟩, rfl, rfl, trivial⟩
      · refine AS_L rfl rfl (Lo_make1 (c := h.m) H2 rfl rfl rfl Try.underlying41 ze24 rfl (by omega) (by omega) (fun wb w3 H3 => ⟨⟨_, ((hin.cons _).cons _), H3⟩, ?_⟩))
        refine AM_f2 (i := 5) (j := 22) (by kernel_rfl) ?_ ?_
        · refine AS_L rfl rfl (Lo_make1 (c := h.m) H3 rfl rfl rfl Try.underlying41 ze24 rfl (by omega) (by omega) (fun ab w4 H4 => ⟨⟨_, (((hin.cons _).cons _).cons _), H4⟩, ?_⟩))
          refine AM_f1 (i := 22) (by kernel_rfl) ?_
          · refine AS_L rfl rfl (Lo_make1 (c := h.nt) H4 rfl rfl rfl Try.underlying41 ze24 rfl (by omega) (by omega) (fun ub w5 H5 => ⟨⟨_, ((((hin.cons _).cons _).cons _).cons _), H5⟩, ?_⟩))
            refine AM_p (i := 23) (by kernel_rfl) rfl ⟨_, ((((hin.cons _).cons _).cons _).cons _), H5⟩ (Pu.toIf (Pu_build65 rfl rfl rfl rfl rfl rfl rfl rfl rfl rfl)) rfl ?_
            refine AM_f1 (i := 24) (by kernel_rfl) (AS_L rfl rfl (Lo_box (cs := [.pointer (some ⟨h.hb, 0, none⟩), .slice none 0 0, .slice (some ⟨ab, 0, none⟩) h.m h.m, .slice (some ⟨wb, 0, none⟩) h.m h.m, .slice (some ⟨tb, 0, none⟩) h.nt h.nt, .slice (some ⟨ub, 0, none⟩) h.nt h.nt]) H5 rfl rfl (fun gb w6 H6 => ⟨⟨_, (((((hin.cons _).cons _).cons _).cons _).cons _), H6⟩, ?_⟩)))
            refine AM_p (i := 25) (by kernel_rfl) rfl ⟨_, (((((hin.cons _).cons _).cons _).cons _).cons _), H6⟩ (Pu.toIf (Pu_as rfl)) rfl ?_
            refine AM_nil (by kernel_rfl) ?_
            exact ⟨gb, ⟨ab, wb, tb, ub, (((H6.swapAt 1).swapAt 2).swapAt 3)⟩, rfl, rfl, trivial⟩
        · refine AS_L rfl rfl (Lo_make1 (c := h.nt) H3 rfl rfl rfl Try.underlying41 ze24 rfl (by omega) (by omega) (fun ub w4 H4 => ⟨⟨_, (((hin.cons _).cons _).cons _), H4⟩, ?_⟩))
          refine AM_f1 (i := 5) (by kernel_rfl) ?_
          · refine AS_L rfl rfl (Lo_make1 (c := h.m) H4 rfl rfl rfl Try.underlying41 ze24 rfl (by omega) (by omega) (fun ab w5 H5 => ⟨⟨_, ((((hin.cons _).cons _).cons _).cons _), H5⟩, ?_⟩))
            refine AM_p (i := 23) (by kernel_rfl) rfl ⟨_, ((((hin.cons _).cons _).cons _).cons _), H5⟩ (Pu.toIf (Pu_build65 rfl rfl rfl rfl rfl rfl rfl rfl rfl rfl)) rfl ?_
            refine AM_f1 (i := 24) (by kernel_rfl) (AS_L rfl rfl (Lo_box (cs := [.pointer (some ⟨h.hb, 0, none⟩), .slice none 0 0, .slice (some ⟨ab, 0, none⟩) h.m h.m, .slice (some ⟨wb, 0, none⟩) h.m h.m, .slice (some ⟨tb, 0, none⟩) h.nt h.nt, .slice (some ⟨ub, 0, none⟩) h.nt h.nt]) H5 rfl rfl (fun gb w6 H6 => ⟨⟨_, (((((hin.cons _).cons _).cons _).cons _).cons _), H6⟩, ?_⟩)))
            refine AM_p (i := 25) (by kernel_rfl) rfl ⟨_, (((((hin.cons _).cons _).cons _).cons _).cons _), H6⟩ (Pu.toIf (Pu_as rfl)) rfl ?_
            refine AM_nil (by kernel_rfl) ?_
            exact ⟨gb, ⟨ab, wb, tb, ub, ((H6.swapAt 2).swapAt 3)⟩, rfl, rfl, trivial⟩
      · refine AS_L rfl rfl (Lo_make1 (c := h.nt) H2 rfl rfl rfl Try.underlying41 ze24 rfl (by omega) (by omega) (fun ub w3 H3 => ⟨⟨_, ((hin.cons _).cons _), H3⟩, ?_⟩))
        refine AM_f2 (i := 5) (j := 10) (by kernel_rfl) ?_ ?_
        · refine AS_L rfl rfl (Lo_make1 (c := h.m) H3 rfl rfl rfl Try.underlying41 ze24 rfl (by omega) (by omega) (fun ab w4 H4 => ⟨⟨_, (((hin.cons _).cons _).cons _), H4⟩, ?_⟩))
          refine AM_f1 (i := 10) (by kernel_rfl) ?_
          · refine AS_L rfl rfl (Lo_make1 (c := h.m) H4 rfl rfl rfl Try.underlying41 ze24 rfl (by omega) (by omega) (fun wb w5 H5 => ⟨⟨_, ((((hin.cons _).cons _).cons _).cons _), H5⟩, ?_⟩))
            refine AM_p (i := 23) (by kernel_rfl) rfl ⟨_, ((((hin.cons _).cons _).cons _).cons _), H5⟩ (Pu.toIf (Pu_build65 rfl rfl rfl rfl rfl rfl rfl rfl rfl rfl)) rfl ?_
            refine AM_f1 (i := 24) (by kernel_rfl) (AS_L rfl rfl (Lo_box (cs := [.pointer (some ⟨h.hb, 0, none⟩), .slice none 0 0, .slice (some ⟨ab, 0, none⟩) h.m h.m, .slice (some ⟨wb, 0, none⟩) h.m h.m, .slice (some ⟨tb, 0, none⟩) h.nt h.nt, .slice (some ⟨ub, 0, none⟩) h.nt h.nt]) H5 rfl rfl (fun gb w6 H6 => ⟨⟨_, (((((hin.cons _).cons _).cons _).cons _).cons _), H6⟩, ?_⟩)))
            refine AM_p (i := 25) (by kernel_rfl) rfl ⟨_, (((((hin.cons _).cons _).cons _).cons _).cons _), H6⟩ (Pu.toIf (Pu_as rfl)) rfl ?_
            refine AM_nil (by kernel_rfl) ?_
            exact ⟨gb, ⟨ab, wb, tb, ub, ((H6.swapAt 1).swapAt 3)⟩, rfl, rfl, trivial⟩
        · refine AS_L rfl rfl (Lo_make1 (c := h.m) H3 rfl rfl rfl Try.underlying41 ze24 rfl (by omega) (by omega) (fun wb w4 H4 => ⟨⟨_, (((hin.cons _).cons _).cons _), H4⟩, ?_⟩))
          refine AM_f1 (i := 5) (by kernel_rfl) ?_
          · refine AS_L rfl rfl (Lo_make1 (c := h.m) H4 rfl rfl rfl Try.underlying41 ze24 rfl (by omega) (by omega) (fun ab w5 H5 => ⟨⟨_, ((((hin.cons _).cons _).cons _).cons _), H5⟩, ?_⟩))
            refine AM_p (i := 23) (by kernel_rfl) rfl ⟨_, ((((hin.cons _).cons _).cons _).cons _), H5⟩ (Pu.toIf (Pu_build65 rfl rfl rfl rfl rfl rfl rfl rfl rfl rfl)) rfl ?_
            refine AM_f1 (i := 24) (by kernel_rfl) (AS_L rfl rfl (Lo_box (cs := [.pointer (some ⟨h.hb, 0, none⟩), .slice none 0 0, .slice (some ⟨ab, 0, none⟩) h.m h.m, .slice (some ⟨wb, 0, none⟩) h.m h.m, .slice (some ⟨tb, 0, none⟩) h.nt h.nt, .slice (some ⟨ub, 0, none⟩) h.nt h.nt]) H5 rfl rfl (fun gb w6 H6 => ⟨⟨_, (((((hin.cons _).cons _).cons _).cons _).cons _), H6⟩, ?_⟩)))
            refine AM_p (i := 25) (by kernel_rfl) rfl ⟨_, (((((hin.cons _).cons _).cons _).cons _).cons _), H6⟩ (Pu.toIf (Pu_as rfl)) rfl ?_
            refine AM_nil (by kernel_rfl) ?_
            exact ⟨gb, ⟨ab, wb, tb, ub, (H6.swapAt 3)⟩, rfl, rfl, trivial⟩
    · refine AS_L rfl rfl (Lo_make1 (c := h.nt) H1 rfl rfl rfl Try.underlying41 ze24 rfl (by omega) (by omega) (fun ub w2 H2 => ⟨⟨_, (hin.cons _), H2⟩, ?_⟩))
      refine AM_f3 (i := 5) (j := 10) (k := 16) (by kernel_rfl) ?_ ?_ ?_
      · refine AS_L rfl rfl (Lo_make1 (c := h.m) H2 rfl rfl rfl Try.underlying41 ze24 rfl (by omega) (by omega) (fun ab w3 H3 => ⟨⟨_, ((hin.cons _).cons _), H3⟩, ?_⟩))
        refine AM_f2 (i := 10) (j := 16) (by kernel_rfl) ?_ ?_
        · refine AS_L rfl rfl (Lo_make1 (c := h.m) H3 rfl rfl rfl Try.underlying41 ze24 rfl (by omega) (by omega) (fun wb w4 H4 => ⟨⟨_, (((hin.cons _).cons _).cons _), H4⟩, ?_⟩))
          refine AM_f1 (i := 16) (by kernel_rfl) ?_
          · refine AS_L rfl rfl (Lo_make1 (c := h.nt) H4 rfl rfl rfl Try.underlying63 ze66 rfl (by omega) (by omega) (fun tb w5 H5 => ⟨⟨_, ((((hin.cons _).cons _).cons _).cons _), H5⟩, ?_⟩))
            refine AM_p (i := 23) (by kernel_rfl) rfl ⟨_, ((((hin.cons _).cons _).cons _).cons _), H5⟩ (Pu.toIf (Pu_build65 rfl rfl rfl rfl rfl rfl rfl rfl rfl rfl)) rfl ?_
            refine AM_f1 (i := 24) (by kernel_rfl) (AS_L rfl rfl (Lo_box (cs := [.pointer (some ⟨h.hb, 0, none⟩), .slice none 0 0, .slice (some ⟨ab, 0, none⟩) h.m h.m, .slice (some ⟨wb, 0, none⟩) h.m h.m, .slice (some ⟨tb, 0, none⟩) h.nt h.nt, .slice (some ⟨ub, 0, none⟩) h.nt h.nt]) H5 rfl rfl (fun gb w6 H6 => ⟨⟨_, (((((hin.cons _).cons _).cons _).cons _).cons _), H6⟩, ?_⟩)))
            refine AM_p (i := 25) (by kernel_rfl) rfl ⟨_, (((((hin.cons _).cons _).cons _).cons _).cons _), H6⟩ (Pu.toIf (Pu_as rfl)) rfl ?_
            refine AM_nil (by kernel_rfl) ?_
            exact ⟨gb, ⟨ab, wb, tb, ub, (((H6.swapAt 1).swapAt 2).swapAt 1)⟩, rfl, rfl, trivial⟩
        · refine AS_L rfl rfl (Lo_make1 (c := h.nt) H3 rfl rfl rfl Try.underlying63 ze66 rfl (by omega) (by omega) (fun tb w4 H4 => ⟨⟨_, (((hin.cons _).cons _).cons _), H4⟩, ?_⟩))
          refine AM_f1 (i := 10) (by kernel_rfl) ?_
          · refine AS_L rfl rfl (Lo_make1 (c := h.m) H4 rfl rfl rfl Try.underlying41 ze24 rfl (by omega) (by omega) (fun wb w5 H5 => ⟨⟨_, ((((hin.cons _).cons _).cons _).cons _), H5⟩, ?_⟩))
            refine AM_p (i := 23) (by kernel_rfl) rfl ⟨_, ((((hin.cons _).cons _).cons _).cons _), H5⟩ (Pu.toIf (Pu_build65 rfl rfl rfl rfl rfl rfl rfl rfl rfl rfl)) rfl ?_
            refine AM_f1 (i := 24) (by kernel_rfl) (AS_L rfl rfl (Lo_box (cs := [.pointer (some ⟨h.hb, 0, none⟩), .slice none 0 0, .slice (some ⟨ab, 0, none⟩) h.m h.m, .slice (some ⟨wb, 0, none⟩) h.m h.m, .slice (some ⟨tb, 0, none⟩) h.nt h.nt, .slice (some ⟨ub, 0, none⟩) h.nt h.nt]) H5 rfl rfl (fun gb w6 H6 => ⟨⟨_, (((((hin.cons _).cons _).cons _).cons _).cons _), H6⟩, ?_⟩)))
            refine AM_p (i := 25) (by kernel_rfl) rfl ⟨_, (((((hin.cons _).cons _).cons _).cons _).cons _), H6⟩ (Pu.toIf (Pu_as rfl)) rfl ?_
            refine AM_nil (by kernel_rfl) ?_
            exact ⟨gb, ⟨ab, wb, tb, ub, ((H6.swapAt 2).swapAt 1)⟩, rfl, rfl, trivial⟩
      · refine AS_L rfl rfl (Lo_make1 (c := h.m) H2 rfl rfl rfl Try.underlying41 ze24 rfl (by omega) (by omega) (fun wb w3 H3 => ⟨⟨_, ((hin.cons _).cons _), H3⟩, ?_⟩))
        refine AM_f2 (i := 5) (j := 16) (by kernel_rfl) ?_ ?_
        · refine AS_L rfl rfl (Lo_make1 (c := h.m) H3 rfl rfl rfl Try.underlying41 ze24 rfl (by omega) (by omega) (fun ab w4 H4 => ⟨⟨_, (((hin.cons _).cons _).cons _), H4⟩, ?_⟩))
          refine AM_f1 (i := 16) (by kernel_rfl) ?_
          · refine AS_L rfl rfl (Lo_make1 (c := h.nt) H4 rfl rfl rfl Try.underlying63 ze66 rfl (by omega) (by omega) (fun tb w5 H5 => ⟨⟨_, ((((hin.cons _).cons _).cons _).cons _), H5⟩, ?_⟩))
            refine AM_p (i := 23) (by kernel_rfl) rfl ⟨_, ((((hin.cons _).cons _).cons _).cons _), H5⟩ (Pu.toIf (Pu_build65 rfl rfl rfl rfl rfl rfl rfl rfl rfl rfl)) rfl ?_
            refine AM_f1 (i := 24) (by kernel_rfl) (AS_L rfl rfl (Lo_box (cs := [.pointer (some ⟨h.hb, 0, none⟩), .slice none 0 0, .slice (some ⟨ab, 0, none⟩) h.m h.m, .slice (some ⟨wb, 0, none⟩) h.m h.m, .slice (some ⟨tb, 0, none⟩) h.nt h.nt, .slice (some ⟨ub, 0, none⟩) h.nt h.nt]) H5 rfl rfl (fun gb w6 H6 => ⟨⟨_, (((((hin.cons _).cons _).cons _).cons _).cons _), H6⟩, ?_⟩)))
            refine AM_p (i := 25) (by kernel_rfl) rfl ⟨_, (((((hin.cons _).cons _).cons _).cons _).cons _), H6⟩ (Pu.toIf (Pu_as rfl)) rfl ?_
            refine AM_nil (by kernel_rfl) ?_
            exact ⟨gb, ⟨ab, wb, tb, ub, ((H6.swapAt 1).swapAt 2)⟩, rfl, rfl, trivial⟩
        · refine AS_L rfl rfl (Lo_make1 (c := h.nt) H3 rfl rfl rfl Try.underlying63 ze66 rfl (by omega) (by omega) (fun tb w4 H4 => ⟨⟨_, (((hin.cons _).cons _).cons _), H4⟩, ?_⟩))
          refine AM_f1 (i := 5) (by kernel_rfl) ?_
          · refine AS_L rfl rfl (Lo_make1 (c := h.m) H4 rfl rfl rfl Try.underlying41 ze24 rfl (by omega) (by omega) (fun ab w5 H5 => ⟨⟨_, ((((hin.cons _).cons _).cons _).cons _), H5⟩, ?_⟩))
            refine AM_p (i := 23) (by kernel_rfl) rfl ⟨_, ((((hin.cons _).cons _).cons _).cons _), H5⟩ (Pu.toIf (Pu_build65 rfl rfl rfl rfl rfl rfl rfl rfl rfl rfl)) rfl ?_
            refine AM_f1 (i := 24) (by kernel_rfl) (AS_L rfl rfl (Lo_box (cs := [.pointer (some ⟨h.hb, 0, none⟩), .slice none 0 0, .slice (some ⟨ab, 0, none⟩) h.m h.m, .slice (some ⟨wb, 0, none⟩) h.m h.m, .slice (some ⟨tb, 0, none⟩) h.nt h.nt, .slice (some ⟨ub, 0, none⟩) h.nt h.nt]) H5 rfl rfl (fun gb w6 H6 => ⟨⟨_, (((((hin.cons _).cons _).cons _).cons _).cons _), H6⟩, ?_⟩)))
            refine AM_p (i := 25) (by kernel_rfl) rfl ⟨_, (((((hin.cons _).cons _).cons _).cons _).cons _), H6⟩ (Pu.toIf (Pu_as rfl)) rfl ?_
            refine AM_nil (by kernel_rfl) ?_
            exact ⟨gb, ⟨ab, wb, tb, ub, (H6.swapAt 2)⟩, rfl, rfl, trivial⟩
      · refine AS_L rfl rfl (Lo_make1 (c := h.nt) H2 rfl rfl rfl Try.underlying63 ze66 rfl (by omega) (by omega) (fun tb w3 H3 => ⟨⟨_, ((hin.cons _).cons _), H3⟩, ?_⟩))
        refine AM_f2 (i := 5) (j := 10) (by kernel_rfl) ?_ ?_
        · refine AS_L rfl rfl (Lo_make1 (c := h.m) H3 rfl rfl rfl Try.underlying41 ze24 rfl (by omega) (by omega) (fun ab w4 H4 => ⟨⟨_, (((hin.cons _).cons _).cons _), H4⟩, ?_⟩))
          refine AM_f1 (i := 10) (by kernel_rfl) ?_
          · refine AS_L rfl rfl (Lo_make1 (c := h.m) H4 rfl rfl rfl Try.underlying41 ze24 rfl (by omega) (by omega) (fun wb w5 H5 => ⟨⟨_, ((((hin.cons _).cons _).cons _).cons _), H5⟩, ?_⟩))
            refine AM_p (i := 23) (by kernel_rfl) rfl ⟨_, ((((hin.cons _).cons _).cons _).cons _), H5⟩ (Pu.toIf (Pu_build65 rfl rfl rfl rfl rfl rfl rfl rfl rfl rfl)) rfl ?_
            refine AM_f1 (i := 24) (by kernel_rfl) (AS_L rfl rfl (Lo_box (cs := [.pointer (some ⟨h.hb, 0, none⟩), .slice none 0 0, .slice (some ⟨ab, 0, none⟩) h.m h.m, .slice (some ⟨wb, 0, none⟩) h.m h.m, .slice (some ⟨tb, 0, none⟩) h.nt h.nt, .slice (some ⟨ub, 0, none⟩) h.nt h.nt]) H5 rfl rfl (fun gb w6 H6 => ⟨⟨_, (((((hin.cons _).cons _).cons _).cons _).cons _), H6⟩, ?_⟩)))
            refine AM_p (i := 25) (by kernel_rfl) rfl ⟨_, (((((hin.cons _).cons _).cons _).cons _).cons _), H6⟩ (Pu.toIf (Pu_as rfl)) rfl ?_
            refine AM_nil (by kernel_rfl) ?_
            exact ⟨gb, ⟨ab, wb, tb, ub, (H6.swapAt 1)⟩, rfl, rfl, trivial⟩
        · refine AS_L rfl rfl (Lo_make1 (c := h.m) H3 rfl rfl rfl Try.underlying41 ze24 rfl (by omega) (by omega) (fun wb w4 H4 => ⟨⟨_, (((hin.cons _).cons _).cons _), H4⟩, ?_⟩))
          refine AM_f1 (i := 5) (by kernel_rfl) ?_
          · refine AS_L rfl rfl (Lo_make1 (c := h.m) H4 rfl rfl rfl Try.underlying41 ze24 rfl (by omega) (by omega) (fun ab w5 H5 => ⟨⟨_, ((((hin.cons _).cons _).cons _).cons _), H5⟩, ?_⟩))
            refine AM_p (i := 23) (by kernel_rfl) rfl ⟨_, ((((hin.cons _).cons _).cons _).cons _), H5⟩ (Pu.toIf (Pu_build65 rfl rfl rfl rfl rfl rfl rfl rfl rfl rfl)) rfl ?_
            refine AM_f1 (i := 24) (by kernel_rfl) (AS_L rfl rfl (Lo_box (cs := [.pointer (some ⟨h.hb, 0, none⟩), .slice none 0 0, .slice (some ⟨ab, 0, none⟩) h.m h.m, .slice (some ⟨wb, 0, none⟩) h.m h.m, .slice (some ⟨tb, 0, none⟩) h.nt h.nt, .slice (some ⟨ub, 0, none⟩) h.nt h.nt]) H5 rfl rfl (fun gb w6 H6 => ⟨⟨_, (((((hin.cons _).cons _).cons _).cons _).cons _), H6⟩, ?_⟩)))
            refine AM_p (i := 25) (by kernel_rfl) rfl ⟨_, (((((hin.cons _).cons _).cons _).cons _).cons _), H6⟩ (Pu.toIf (Pu_as rfl)) rfl ?_
            refine AM_nil (by kernel_rfl) ?_
            exact ⟨gb, ⟨ab, wb, tb, ub, H6⟩, rfl, rfl, trivial⟩
  obtain ⟨ab, wb, tb, ub, H2⟩ := hmid
  have H3 : HP W0 w2 (Fam 1 1 21 (fun _ => nilRow) :: Blk gb 6 (cellsF (gcl h ((fun _ => nilRow) 0).val ab wb tb ub)) :: Blk ab h.m (fun _ => nilv) :: Blk wb h.m (fun _ => nilv) :: Blk tb h.nt (fun _ => nilv) :: Blk ub h.nt (fun _ => nilv) :: L) := H2.famNil 1 1 21
  have hin3 : InL h (Fam 1 1 21 (fun _ => nilRow) :: Blk gb 6 (cellsF (gcl h ((fun _ => nilRow) 0).val ab wb tb ub)) :: Blk ab h.m (fun _ => nilv) :: Blk wb h.m (fun _ => nilv) :: Blk tb h.nt (fun _ => nilv) :: Blk ub h.nt (fun _ => nilv) :: L) := ((((((hin.cons _).cons _).cons _).cons _).cons _).cons _)
  refine CE_seq ?_
  refine CE_seq ?_
  refine CE_reg ?_
  refine EL_p (Pu_mv rfl) rfl ?_
  refine EL_p (Pu_nil rfl) rfl ?_
  refine EL_p (Pu_fld rfl fi59_1) rfl ?_
  refine EL_ld rfl fl23 (H3.cellM hin3.mh (by decide)) rfl ?_
  refine EL_p (Pu_len rfl sl23 rfl) rfl ?_
  refine EL_p (Pu_mv rfl) rfl ?_
  refine EL_nil ?_
  refine CE_block ?_
  refine CE_loop (fun (k : Nat) w' => k ≤ h.nt ∧ ∃ Rl : Nat → Row, RepI (Rl 0) (liveF h k) ∧ HP W0 w' (Fam 1 1 21 (Rl) :: Blk gb 6 (cellsF (gcl h ((Rl) 0).val ab wb tb ub)) :: Blk ab h.m (fun _ => nilv) :: Blk wb h.m (fun _ => nilv) :: Blk tb h.nt (fun _ => nilv) :: Blk ub h.nt (fun _ => nilv) :: L)) (fun k => [(0, .pointer (some ⟨h.hb, 0, none⟩)), (3, .pointer (some ⟨gb, 0, none⟩)), (52, .int .i64 h.nt), (53, .int .i64 k)]) (fun k => h.nt - k) 0 ⟨Nat.zero_le _, fun _ => nilRow, RepI.nil, H3⟩ ⟨rfl, rfl, rfl, rfl, trivial⟩ ?_
  rintro k w4 ⟨hk, Rl, hRl, H4⟩
  have hin4 : InL h (Fam 1 1 21 (Rl) :: Blk gb 6 (cellsF (gcl h ((Rl) 0).val ab wb tb ub)) :: Blk ab h.m (fun _ => nilv) :: Blk wb h.m (fun _ => nilv) :: Blk tb h.nt (fun _ => nilv) :: Blk ub h.nt (fun _ => nilv) :: L) := ((((((hin.cons _).cons _).cons _).cons _).cons _).cons _)
  refine CE_seq ?_
  refine CE_reg ?_
  refine EL_p (Pu_lss rfl rfl) rfl ?_
  refine EL_nil ?_
  refine CE_seq ?_
  refine CE_cP rfl (fun c54 => ?_) (fun c54 => ?_)
  · have hlt : k < h.nt := by omega
    refine CE_skip ?_
    refine CE_seq ?_
    refine CE_block ?_
    refine CE_seq ?_
    refine CE_reg ?_
    refine EL_p (Pu_mv rfl) rfl ?_
    refine EL_p (Pu_as rfl) rfl ?_
    refine EL_nil ?_
    refine CE_seq ?_
    refine CE_reg ?_
    refine EL_p (Pu_mv rfl) rfl ?_
    refine EL_p (Pu_mv rfl) rfl ?_
    refine EL_p (Pu_cnv rfl in3 in21 (w32 (by omega))) rfl ?_
    refine EL_L rfl (Lo_call ca46 rfl ((aborted46 H4 hin4 hlt).mono (fun y w5 hh => ⟨_, hh.1, ?_⟩)))
    have H5 := hh.2
    refine EL_p (Pu_not rfl) rfl ?_
    refine EL_nil ?_
    refine CE_cB rfl (fun c60 => ?_) (fun c60 => ?_)
    · refine CE_reg ?_
      refine EL_p (Pu_mv rfl) rfl ?_
      refine EL_p (Pu_mv rfl) rfl ?_
      refine EL_p (Pu_nil rfl) rfl ?_
      refine EL_p (Pu_fld rfl fi65_1) rfl ?_
      refine EL_ld rfl fl24 (H5.cell (j := 1) rfl (by decide)) rfl ?_
      refine EL_p (Pu_mv rfl) rfl ?_
      refine EL_p (Pu_cnv rfl in3 in21 (w32 (by omega))) rfl ?_
      refine EL_L rfl (Lo_bs H5 rfl rfl Try.underlying24 ze21 (fun bt w6 H6 => ?_))
      have hlenl := liveF_length h k
      have hRll := hRl.len
      refine EL_L rfl (Lo_append (j := 0) (q := 0) H6 rfl (by decide) rfl rfl Try.underlying24 ze21 (by decide) (fun _ _ => rfl) (by omega) (by omega) (fun r' w7 hl7 hc7 H7 => ?_))
      refine EL_p (Pu_nil rfl) rfl ?_
      refine EL_p (Pu_fld rfl fi65_1) rfl ?_
      refine EL_L0 (Lo_st (j := 1) (i := 1) H7 rfl rfl rfl fl24 rfl (by decide) (fun w8 H8 => ?_))
      refine EL_nil ?_
      refine CE_reg ?_
      refine EL_p (Pu_add rfl rfl (w64 (by omega))) rfl ?_
      refine EL_p (Pu_mv rfl) rfl ?_
      refine EL_nil ?_
      have H9 : HP W0 w8 (Fam 1 1 21 (updR Rl 0 r') :: Blk gb 6 (cellsF (gcl h ((updR Rl 0 r') 0).val ab wb tb ub)) :: Blk ab h.m (fun _ => nilv) :: Blk wb h.m (fun _ => nilv) :: Blk tb h.nt (fun _ => nilv) :: Blk ub h.nt (fun _ => nilv) :: L) := H8.congr (j := 1) rfl (fun q hq => (gcl_set h _ _ _ _ _ _ q hq).trans (by rw [updR_self]))
      refine ⟨k + 1, by omega, ⟨rfl, rfl, rfl, rfl, trivial⟩, by omega, updR Rl 0 r', ?_, H9⟩
      rw [updR_self, liveF, if_neg (by rw [c60]; exact Bool.false_ne_true)]
      exact hRl.app hl7 hc7 rfl
    · refine CE_skip ?_
      refine CE_reg ?_
      refine EL_p (Pu_add rfl rfl (w64 (by omega))) rfl ?_
      refine EL_p (Pu_mv rfl) rfl ?_
      refine EL_nil ?_
      refine ⟨k + 1, by omega, ⟨rfl, rfl, rfl, rfl, trivial⟩, by omega, Rl, ?_, H5⟩
      rw [liveF, if_pos c60]
      exact hRl
  · have hkn : k = h.nt := by omega
    subst hkn
    refine CE_exit ?_
    refine CE_seq ?_
    refine CE_reg ?_
    refine EL_p (Pu_mv rfl) rfl ?_
    refine EL_p (Pu_nil rfl) rfl ?_
    refine EL_p (Pu_fld rfl fi59_4) rfl ?_
    refine EL_ld rfl fl3 (H4.cellM hin4.mh (by decide)) rfl ?_
    refine EL_L rfl (Lo_make (c := h.m) H4 rfl rfl rfl Try.underlying81 ze83 (by omega) (by omega) (fun ib w5 H5 => ?_))
    refine EL_p (Pu_as rfl) rfl ?_
    refine EL_nil ?_
    refine CE_seq ?_
    refine CE_seq ?_
    refine CE_reg ?_
    refine EL_p (Pu_mv rfl) rfl ?_
    refine EL_p (Pu_len rfl sl81 rfl) rfl ?_
    refine EL_p (Pu_mv rfl) rfl ?_
    refine EL_nil ?_
    refine CE_block ?_
    have H5a : HP W0 w5 (Blk ib (h.m * 2) (itL 0) :: (Fam 1 1 21 (Rl) :: Blk gb 6 (cellsF (gcl h ((Rl) 0).val ab wb tb ub)) :: Blk ab h.m (fun _ => nilv) :: Blk wb h.m (fun _ => nilv) :: Blk tb h.nt (fun _ => nilv) :: Blk ub h.nt (fun _ => nilv) :: L)) := H5.congr (j := 0) rfl (fun i _ => by unfold itL; rw [if_neg (by omega)]; rfl)
    refine CE_loop (fun (k : Nat) w' => k ≤ h.m ∧ HP W0 w' (Blk ib (h.m * 2) (itL k) :: (Fam 1 1 21 (Rl) :: Blk gb 6 (cellsF (gcl h ((Rl) 0).val ab wb tb ub)) :: Blk ab h.m (fun _ => nilv) :: Blk wb h.m (fun _ => nilv) :: Blk tb h.nt (fun _ => nilv) :: Blk ub h.nt (fun _ => nilv) :: L))) (fun k => [(0, .pointer (some ⟨h.hb, 0, none⟩)), (3, .pointer (some ⟨gb, 0, none⟩)), (5, .slice (some ⟨ib, 0, none⟩) h.m h.m), (79, .int .i64 h.m), (80, .int .i64 k)]) (fun k => h.m - k) 0 ⟨Nat.zero_le _, H5a⟩ ⟨rfl, rfl, rfl, rfl, rfl, trivial⟩ ?_
    rintro k w6 ⟨hk2, H6⟩
    refine CE_seq ?_
    refine CE_reg ?_
    refine EL_p (Pu_lss rfl rfl) rfl ?_
    refine EL_nil ?_
    refine CE_seq ?_
    refine CE_cP rfl (fun c81 => ?_) (fun c81 => ?_)
    · have hlt : k < h.m := by omega
      refine CE_skip ?_
      refine CE_seq ?_
      refine CE_block ?_
      refine CE_seq ?_
      refine CE_reg ?_
      refine EL_p (Pu_mv rfl) rfl ?_
      refine EL_p (Pu_as rfl) rfl ?_
      refine EL_nil ?_
      refine CE_reg ?_
      refine EL_p (Pu_mv rfl) rfl ?_
      refine EL_p (Pu_mv rfl) rfl ?_
      refine EL_p (Pu_ixm rfl rfl sl81 rfl hlt) rfl ?_
      refine EL_p (Pu_fld rfl fi83_0) rfl ?_
      refine EL_L0 (Lo_st (j := 0) (i := k * 2) H6 rfl rfl rfl fl21 rfl (by omega) (fun w7 H7 => ?_))
      refine EL_nil ?_
      refine CE_reg ?_
      refine EL_p (Pu_add rfl rfl (w64 (by omega))) rfl ?_
      refine EL_p (Pu_mv rfl) rfl ?_
      refine EL_nil ?_
      exact ⟨k + 1, by omega, ⟨rfl, rfl, rfl, rfl, rfl, trivial⟩, by omega, H7.congr (j := 0) rfl (fun i _ => itL_step k i)⟩
    · have hkm : k = h.m := by omega
      subst hkm
      have H7 : HP W0 w6 (Blk ib (h.m * 2) (itF (fun _ => -1) (fun _ => nilRow)) :: (Fam 1 1 21 (Rl) :: Blk gb 6 (cellsF (gcl h ((Rl) 0).val ab wb tb ub)) :: Blk ab h.m (fun _ => nilv) :: Blk wb h.m (fun _ => nilv) :: Blk tb h.nt (fun _ => nilv) :: Blk ub h.nt (fun _ => nilv) :: L)) := H6.congr (j := 0) rfl (fun i hi => by unfold itL; rw [if_pos hi])
      refine CE_exit ?_
      refine CE_seq ?_
      refine CE_reg ?_
      refine EL_L rfl (Lo_mkmap H7 (fun mb w8 H8 => ?_))
      have hin8 : InL h (MapK mb (fun _ => none) :: Blk ib (h.m * 2) (itF (fun _ => -1) (fun _ => nilRow)) :: (Fam 1 1 21 (Rl) :: Blk gb 6 (cellsF (gcl h ((Rl) 0).val ab wb tb ub)) :: Blk ab h.m (fun _ => nilv) :: Blk wb h.m (fun _ => nilv) :: Blk tb h.nt (fun _ => nilv) :: Blk ub h.nt (fun _ => nilv) :: L)) := (((((((hin.cons _).cons _).cons _).cons _).cons _).cons _).cons _).cons _
      refine EL_p (Pu_as rfl) rfl ?_
      refine EL_nil ?_
      refine CE_seq ?_
      refine CE_seq ?_
      refine CE_reg ?_
      refine EL_p (Pu_mv rfl) rfl ?_
      refine EL_p (Pu_nil rfl) rfl ?_
      refine EL_p (Pu_fld rfl fi59_0) rfl ?_
      refine EL_ld rfl fl54 (H8.cellM hin8.mh (by decide)) rfl ?_
      refine EL_p (Pu_len rfl sl54 rfl) rfl ?_
      refine EL_p (Pu_mv rfl) rfl ?_
      refine EL_nil ?_
      refine CE_block ?_
      have H9 : HP W0 w8 (Fam h.nt 1 21 ((fun _ => nilRow)) :: Fam h.nt 8 68 ((fun _ => nilRow)) :: Fam h.m 1 21 ((fun _ => nilRow)) :: Fam h.m 1 21 ((fun _ => nilRow)) :: Fam h.m 1 21 ((fun _ => nilRow)) :: MapK mb ((fun _ => none)) :: Blk ib (h.m * 2) (itF ((fun _ => -1)) ((fun _ => nilRow))) :: Fam 1 1 21 Rl :: Blk gb 6 (cellsF (gcl h (Rl 0).val ab wb tb ub)) :: Blk ab h.m (hdr ((fun _ => nilRow))) :: Blk wb h.m (hdr ((fun _ => nilRow))) :: Blk tb h.nt (hdr ((fun _ => nilRow))) :: Blk ub h.nt (hdr ((fun _ => nilRow))) :: L) := ((((H8.famNil h.m 1 21).famNil h.m 1 21).famNil h.m 1 21).famNil h.nt 8 68).famNil h.nt 1 21
      refine CE_loop (fun (s : NS) w' => s.p ≤ h.n ∧ NInv h s.g s.p s.p ∧ HP W0 w' (Fam h.nt 1 21 (s.g.Ro) :: Fam h.nt 8 68 (s.g.Rt) :: Fam h.m 1 21 (s.g.Rw) :: Fam h.m 1 21 (s.g.Ra) :: Fam h.m 1 21 (s.g.Rr) :: MapK mb (s.g.f) :: Blk ib (h.m * 2) (itF (s.g.wr) (s.g.Rr)) :: Fam 1 1 21 Rl :: Blk gb 6 (cellsF (gcl h (Rl 0).val ab wb tb ub)) :: Blk ab h.m (hdr (s.g.Ra)) :: Blk wb h.m (hdr (s.g.Rw)) :: Blk tb h.nt (hdr (s.g.Rt)) :: Blk ub h.nt (hdr (s.g.Ro)) :: L)) (fun s => [(0, .pointer (some ⟨h.hb, 0, none⟩)), (3, .pointer (some ⟨gb, 0, none⟩)), (5, .slice (some ⟨ib, 0, none⟩) h.m h.m), (7, .map (some mb)), (92, .slice (some ⟨h.ob, 0, none⟩) h.n h.n), (93, .int .i64 h.n), (94, .int .i64 s.p)]) (fun s => h.n - s.p) ⟨0, ⟨fun _ => nilRow, fun _ => nilRow, fun _ => nilRow, fun _ => nilRow, fun _ => nilRow, fun _ => -1, fun _ => none⟩⟩ ⟨Nat.zero_le _, NInv.start h, H9⟩ ⟨rfl, rfl, rfl, rfl, rfl, rfl, rfl, trivial⟩ ?_
      rintro s w10 ⟨hp, hi, H10⟩
      refine CE_seq ?_
      refine CE_reg ?_
      refine EL_p (Pu_lss rfl rfl) rfl ?_
      refine EL_nil ?_
      refine CE_seq ?_
      refine CE_cP rfl (fun c95 => ?_) (fun c95 => ?_)
      · have hlt : s.p < h.n := by omega
        have hok := ho.ok s.p hlt
        have hT := hok.1
        have hin10 : InL h (Fam h.nt 1 21 (s.g.Ro) :: Fam h.nt 8 68 (s.g.Rt) :: Fam h.m 1 21 (s.g.Rw) :: Fam h.m 1 21 (s.g.Ra) :: Fam h.m 1 21 (s.g.Rr) :: MapK mb (s.g.f) :: Blk ib (h.m * 2) (itF (s.g.wr) (s.g.Rr)) :: Fam 1 1 21 Rl :: Blk gb 6 (cellsF (gcl h (Rl 0).val ab wb tb ub)) :: Blk ab h.m (hdr (s.g.Ra)) :: Blk wb h.m (hdr (s.g.Rw)) :: Blk tb h.nt (hdr (s.g.Rt)) :: Blk ub h.nt (hdr (s.g.Ro)) :: L) := (((((((((((((hin.cons _).cons _).cons _).cons _).cons _).cons _).cons _).cons _).cons _).cons _).cons _).cons _).cons _)
        refine CE_skip ?_
        refine CE_seq ?_
        refine CE_block ?_
        refine CE_seq ?_
        refine CE_reg ?_
        refine EL_p (Pu_mv rfl) rfl ?_
        refine EL_p (Pu_ixm rfl rfl sl54 rfl hlt) rfl ?_
        refine EL_ld57 rfl ((H10.cellM hin10.mo (i := s.p * 3) (by omega)).trans (congrArg some (opsF_at _ _))) ((H10.cellM hin10.mo (i := s.p * 3 + 1) (by omega)).trans (congrArg some (opsF_at1 _ _))) ((H10.cellM hin10.mo (i := s.p * 3 + 2) (by omega)).trans (congrArg some (opsF_at2 _ _))) rfl ?_
        refine EL_L rfl (Lo_alloc H10 ze57 rfl (fun vb w11 H11 => ?_))
        refine EL_p (Pu_as rfl) rfl ?_
        refine EL_L0 (Lo_st57 (j := 0) H11 rfl rfl rfl rfl rfl rfl (fun w12 H12a => ?_))
        have H12 : HP W0 w12 (Blk vb 3 (cellsF [.int .u8 (h.A s.p), .int .i64 0, .string ByteArray.empty]) :: Fam h.nt 1 21 (s.g.Ro) :: Fam h.nt 8 68 (s.g.Rt) :: Fam h.m 1 21 (s.g.Rw) :: Fam h.m 1 21 (s.g.Ra) :: Fam h.m 1 21 (s.g.Rr) :: MapK mb (s.g.f) :: Blk ib (h.m * 2) (itF (s.g.wr) (s.g.Rr)) :: Fam 1 1 21 Rl :: Blk gb 6 (cellsF (gcl h (Rl 0).val ab wb tb ub)) :: Blk ab h.m (hdr (s.g.Ra)) :: Blk wb h.m (hdr (s.g.Rw)) :: Blk tb h.nt (hdr (s.g.Rt)) :: Blk ub h.nt (hdr (s.g.Ro)) :: L) := H12a
        have hin12 : InL h (Blk vb 3 (cellsF [.int .u8 (h.A s.p), .int .i64 0, .string ByteArray.empty]) :: Fam h.nt 1 21 (s.g.Ro) :: Fam h.nt 8 68 (s.g.Rt) :: Fam h.m 1 21 (s.g.Rw) :: Fam h.m 1 21 (s.g.Ra) :: Fam h.m 1 21 (s.g.Rr) :: MapK mb (s.g.f) :: Blk ib (h.m * 2) (itF (s.g.wr) (s.g.Rr)) :: Fam 1 1 21 Rl :: Blk gb 6 (cellsF (gcl h (Rl 0).val ab wb tb ub)) :: Blk ab h.m (hdr (s.g.Ra)) :: Blk wb h.m (hdr (s.g.Rw)) :: Blk tb h.nt (hdr (s.g.Rt)) :: Blk ub h.nt (hdr (s.g.Ro)) :: L) := ((((((((((((((hin.cons _).cons _).cons _).cons _).cons _).cons _).cons _).cons _).cons _).cons _).cons _).cons _).cons _).cons _)
        refine EL_nil ?_
        refine CE_seq ?_
        refine CE_drawH H12 (fun w => HP W0 w (Blk vb 3 (cellsF [.int .u8 (h.A s.p), .int .i64 0, .string ByteArray.empty]) :: Fam h.nt 1 21 (s.g.Ro) :: Fam h.nt 8 68 (s.g.Rt) :: Fam h.m 1 21 (s.g.Rw) :: Fam h.m 1 21 (s.g.Ra) :: Fam h.m 1 21 (s.g.Rr) :: MapK mb (s.g.f) :: Blk ib (h.m * 2) (itF (s.g.wr) (s.g.Rr)) :: Fam 1 1 21 Rl :: Blk gb 6 (cellsF (gcl h (Rl 0).val ab wb tb ub)) :: Blk ab h.m (hdr (s.g.Ra)) :: Blk wb h.m (hdr (s.g.Rw)) :: Blk tb h.nt (hdr (s.g.Rt)) :: Blk ub h.nt (hdr (s.g.Ro)) :: L)) [(0, 0), (1, 0), (2, 0), (3, 0), (4, 0), (5, 0), (6, 0), (7, 0), (8, 0), (9, 0), (10, 0), (11, 0), (12, 0), (13, 0), (14, 0), (15, 0)] mixed rfl (by kernel_rfl) (fun w13 H13 => ?_)
        refine AO_p rfl H13 (Pu.toIf (Pu_mv rfl)) rfl ?_
        refine AO_p rfl H13 (Pu.toIf (Pu_nil rfl)) rfl ?_
        refine AO_p rfl H13 (Pu.toIf (Pu_fld rfl fi59_3)) rfl ?_
        first | (refine AO_p rfl H13 (Ld rfl fl24 (fun w h => h.cellM hin12.mh (by decide))) rfl ?_) | (refine AO_p rfl H13 (Ld rfl fl24 (fun w h => h.acellM hin12.mi hlt)) rfl ?_) | (refine AO_p rfl H13 (Ld rfl fl24 (fun w h => h.acellM hin12.mt hlt)) rfl ?_)
        refine AO_p rfl H13 (Pu.toIf (Pu_mv rfl)) rfl ?_
        first | (refine AO_p rfl H13 (Pu.toIf (Pu_ixA rfl rfl sl24 rfl hlt (H13.anzM hin12.mi hlt))) rfl ?_) | (refine AO_p rfl H13 (Pu.toIf (Pu_ixA rfl rfl sl24 rfl hlt (H13.anzM hin12.mt hlt))) rfl ?_)
        first | (refine AO_p rfl H13 (Ld rfl fl21 (fun w h => h.cellM hin12.mh (by decide))) rfl ?_) | (refine AO_p rfl H13 (Ld rfl fl21 (fun w h => h.acellM hin12.mi hlt)) rfl ?_) | (refine AO_p rfl H13 (Ld rfl fl21 (fun w h => h.acellM hin12.mt hlt)) rfl ?_)
        refine AO_p rfl H13 (Pu.toIf (Pu_mv rfl)) rfl ?_
        refine AO_p rfl H13 (Pu.toIf (Pu_nil rfl)) rfl ?_
        refine AO_p rfl H13 (Pu.toIf (Pu_fld rfl fi59_2)) rfl ?_
        first | (refine AO_p rfl H13 (Ld rfl fl24 (fun w h => h.cellM hin12.mh (by decide))) rfl ?_) | (refine AO_p rfl H13 (Ld rfl fl24 (fun w h => h.acellM hin12.mi hlt)) rfl ?_) | (refine AO_p rfl H13 (Ld rfl fl24 (fun w h => h.acellM hin12.mt hlt)) rfl ?_)
        refine AO_p rfl H13 (Pu.toIf (Pu_mv rfl)) rfl ?_
        first | (refine AO_p rfl H13 (Pu.toIf (Pu_ixA rfl rfl sl24 rfl hlt (H13.anzM hin12.mi hlt))) rfl ?_) | (refine AO_p rfl H13 (Pu.toIf (Pu_ixA rfl rfl sl24 rfl hlt (H13.anzM hin12.mt hlt))) rfl ?_)
        first | (refine AO_p rfl H13 (Ld rfl fl21 (fun w h => h.cellM hin12.mh (by decide))) rfl ?_) | (refine AO_p rfl H13 (Ld rfl fl21 (fun w h => h.acellM hin12.mi hlt)) rfl ?_) | (refine AO_p rfl H13 (Ld rfl fl21 (fun w h => h.acellM hin12.mt hlt)) rfl ?_)
        refine AO_p rfl H13 (Pu.toIf (Pu_as rfl)) rfl ?_
        refine AO_p rfl H13 (Pu.toIf (Pu_as rfl)) rfl ?_
        refine AO_nil ?_
        refine CE_midG (fun (x : Nat) => [(0, .pointer (some ⟨h.hb, 0, none⟩)), (3, .pointer (some ⟨gb, 0, none⟩)), (5, .slice (some ⟨ib, 0, none⟩) h.m h.m), (7, .map (some mb)), (92, .slice (some ⟨h.ob, 0, none⟩) h.n h.n), (93, .int .i64 h.n), (94, .int .i64 s.p), (9, .pointer (some ⟨vb, 0, none⟩)), (10, .int .i32 x), (11, .int .i32 (h.T s.p))]) (fun x w' => h.I s.p = x ∧ x < h.m ∧ lvB h s.p = true ∧ HP W0 w' (Blk vb 3 (cellsF [.int .u8 (h.A s.p), .int .i64 0, .string ByteArray.empty]) :: Fam h.nt 1 21 (s.g.Ro) :: Fam h.nt 8 68 (s.g.Rt) :: Fam h.m 1 21 (s.g.Rw) :: Fam h.m 1 21 (s.g.Ra) :: Fam h.m 1 21 (s.g.Rr) :: MapK mb (s.g.f) :: Blk ib (h.m * 2) (itF (s.g.wr) (s.g.Rr)) :: Fam 1 1 21 Rl :: Blk gb 6 (cellsF (gcl h (Rl 0).val ab wb tb ub)) :: Blk ab h.m (hdr (s.g.Ra)) :: Blk wb h.m (hdr (s.g.Rw)) :: Blk tb h.nt (hdr (s.g.Rt)) :: Blk ub h.nt (hdr (s.g.Ro)) :: L)) ?_ (fun x w14 hmid => ?_)
        · refine CE_seq ?_
          refine CE_reg ?_
          refine EL_p (Pu_mv rfl) rfl ?_
          refine EL_p (Pu_lss rfl rfl) rfl ?_
          refine EL_p (Pu_mv rfl) rfl ?_
          refine EL_gP rfl rfl (fun g115 => ?_) (fun g115 => ?_)
          · refine EL_no rfl rfl rfl rfl ?_
            refine EL_no rfl rfl rfl rfl ?_
            refine EL_no rfl rfl rfl rfl ?_
            refine EL_p (Pu_pt rfl rfl) rfl ?_
            refine EL_nil ?_
            refine CE_cond_t rfl ?_
            refine CE_exit ?_
            refine CE_reg ?_
            refine EL_p (Pu_add rfl rfl (w64 (by omega))) rfl ?_
            refine EL_p (Pu_mv rfl) rfl ?_
            refine EL_nil ?_
            exact ⟨⟨s.p + 1, s.g⟩, by dsimp only; omega, ⟨rfl, rfl, rfl, rfl, rfl, rfl, rfl, trivial⟩, hlt, hi.skip (lvB_neg g115), H13.tail⟩
          · refine EL_yes rfl rfl ?_
            refine EL_p (Pu_mv rfl) rfl ?_
            refine EL_yes rfl rfl ?_
            refine EL_p (Pu_mv rfl) rfl ?_
            refine EL_yes rfl rfl ?_
            refine EL_L rfl (Lo_call ca46 rfl ((aborted46 H13 hin12 hT).mono (fun y w14 hh => ⟨_, hh.1, ?_⟩)))
            have H14 := hh.2
            refine EL_p (Pu_pf rfl rfl) rfl ?_
            refine EL_nil ?_
            first | refine CE_cP rfl (fun c119 => ?_) (fun c119 => ?_) | refine CE_cN rfl (fun c119 => ?_) (fun c119 => ?_) | refine CE_cond rfl (fun c119 => ?_) (fun c119 => ?_)
            · refine CE_exit ?_
              refine CE_reg ?_
              refine EL_p (Pu_add rfl rfl (w64 (by omega))) rfl ?_
              refine EL_p (Pu_mv rfl) rfl ?_
              refine EL_nil ?_
              exact ⟨⟨s.p + 1, s.g⟩, by dsimp only; omega, ⟨rfl, rfl, rfl, rfl, rfl, rfl, rfl, trivial⟩, hlt, hi.skip (lvB_ab c119), H14.tail⟩
            · refine CE_skip ?_
              obtain ⟨x, hx⟩ : ∃ x : Nat, h.I s.p = x := ⟨(h.I s.p).toNat, by omega⟩
              have hxm : x < h.m := by omega
              exact ⟨x, ⟨hx, hxm, lvB_yes (by omega) c119, H14⟩, rfl, rfl, rfl, rfl, rfl, rfl, rfl, rfl, congrArg (fun z => some (Value.int .i32 z)) hx, rfl, trivial⟩
        obtain ⟨hx, hxm, hl, H14⟩ := hmid
        have hidx := hi.idx (h.T s.p) x hT hxm
        have htch := hi.tch (h.T s.p) hT
        have htl := tchF_length h (h.T s.p) s.p
        have htlen := htch.len
        refine CE_seq ?_
        refine CE_reg ?_
        refine EL_p (Pu_mv rfl) rfl ?_
        refine EL_p (Pu_cnv rfl in21 in85 (wu64 (by omega))) rfl ?_
        first | (refine EL_p (Pu_shl rfl rfl (by omega)) rfl ?_) | (refine EL_p (Pu_or rfl rfl (by omega) (by omega)) rfl ?_)
        refine EL_p (Pu_mv rfl) rfl ?_
        refine EL_p (Pu_cnv rfl in21 in85 (wu64 (by omega))) rfl ?_
        first | (refine EL_p (Pu_shl rfl rfl (by omega)) rfl ?_) | (refine EL_p (Pu_or rfl rfl (by omega) (by omega)) rfl ?_)
        refine EL_p (Pu_as rfl) rfl ?_
        refine EL_nil ?_
        refine CE_seq ?_
        refine CE_reg ?_
        refine EL_p (Pu_mv rfl) rfl ?_
        refine EL_p (Pu_mv rfl) rfl ?_
        refine EL_i (S := fun w' => HP W0 w' (Blk vb 3 (cellsF [.int .u8 (h.A s.p), .int .i64 0, .string ByteArray.empty]) :: Fam h.nt 1 21 (s.g.Ro) :: Fam h.nt 8 68 (s.g.Rt) :: Fam h.m 1 21 (s.g.Rw) :: Fam h.m 1 21 (s.g.Ra) :: Fam h.m 1 21 (s.g.Rr) :: MapK mb (s.g.f) :: Blk ib (h.m * 2) (itF (s.g.wr) (s.g.Rr)) :: Fam 1 1 21 Rl :: Blk gb 6 (cellsF (gcl h (Rl 0).val ab wb tb ub)) :: Blk ab h.m (hdr (s.g.Ra)) :: Blk wb h.m (hdr (s.g.Rw)) :: Blk tb h.nt (hdr (s.g.Rt)) :: Blk ub h.nt (hdr (s.g.Ro)) :: L)) (Lk (f := s.g.f) (q := keyOf (h.T s.p) x) rfl rfl Try.underlying84 Try.underlying85 ze21 (fun w' e => ⟨W0, _, 6, e, rfl⟩)) H14 rfl ?_
        refine EL_p (Pu_mv rfl) rfl ?_
        refine EL_p (Pu_ext rfl rfl) rfl ?_
        refine EL_p (Pu_ext rfl rfl) rfl ?_
        refine EL_p (Pu_as rfl) rfl ?_
        refine EL_p (Pu_as rfl) rfl ?_
        refine EL_nil ?_
        refine CE_midI ([(0, .pointer (some ⟨h.hb, 0, none⟩)), (3, .pointer (some ⟨gb, 0, none⟩)), (5, .slice (some ⟨ib, 0, none⟩) h.m h.m), (7, .map (some mb)), (92, .slice (some ⟨h.ob, 0, none⟩) h.n h.n), (93, .int .i64 h.n), (94, .int .i64 s.p), (9, .pointer (some ⟨vb, 0, none⟩)), (10, .int .i32 x), (11, .int .i32 (h.T s.p)), (13, .int .i32 (findT x (tchF h (h.T s.p) s.p)))]) (fun w' => ∃ rt f', RepT rt (addT x (tchF h (h.T s.p) s.p)) ∧ (∀ q, f' q = if q = keyOf (h.T s.p) x then some ((findT x (tchF h (h.T s.p) s.p)) : Int) else s.g.f q) ∧ HP W0 w' (Blk vb 3 (cellsF [.int .u8 (h.A s.p), .int .i64 0, .string ByteArray.empty]) :: Fam h.nt 1 21 (s.g.Ro) :: Fam h.nt 8 68 (updR s.g.Rt (h.T s.p) rt) :: Fam h.m 1 21 (s.g.Rw) :: Fam h.m 1 21 (s.g.Ra) :: Fam h.m 1 21 (s.g.Rr) :: MapK mb (f') :: Blk ib (h.m * 2) (itF (s.g.wr) (s.g.Rr)) :: Fam 1 1 21 Rl :: Blk gb 6 (cellsF (gcl h (Rl 0).val ab wb tb ub)) :: Blk ab h.m (hdr (s.g.Ra)) :: Blk wb h.m (hdr (s.g.Rw)) :: Blk tb h.nt (hdr (updR s.g.Rt (h.T s.p) rt)) :: Blk ub h.nt (hdr (s.g.Ro)) :: L)) ?_ (fun w15 hmid => ?_)
        · refine CE_seq ?_
          refine CE_reg ?_
          refine EL_p (Pu_mv rfl) rfl ?_
          refine EL_p (Pu_not rfl) rfl ?_
          refine EL_nil ?_
          refine CE_cB rfl (fun c133 => ?_) (fun c133 => ?_)
          · have hno : s.g.f (keyOf (h.T s.p) x) = none := by
              cases hq : s.g.f (keyOf (h.T s.p) x) with
              | none => rfl
              | some v => rw [hq] at c133; cases c133
            have hnf : ¬ (findT x (tchF h (h.T s.p) s.p)) < (tchF h (h.T s.p) s.p).length := idxL_none (by rw [← hno, hidx]; rfl)
            have hfl := findT_le x (tchF h (h.T s.p) s.p)
            refine CE_seq ?_
            refine CE_reg ?_
            refine EL_p (Pu_mv rfl) rfl ?_
            refine EL_p (Pu_nil rfl) rfl ?_
            refine EL_p (Pu_fld rfl fi65_4) rfl ?_
            first | (refine EL_ld rfl fl63 (H14.cell (j := 9) rfl (by decide)) rfl ?_) | (refine EL_ld rfl fl63 (H14.cell (j := 12) rfl hT) rfl ?_)
            refine EL_p (Pu_mv rfl) rfl ?_
            refine EL_p (Pu_ix rfl rfl sl63 rfl hT) rfl ?_
            first | (refine EL_ld rfl fl66 (H14.cell (j := 9) rfl (by decide)) rfl ?_) | (refine EL_ld rfl fl66 (H14.cell (j := 12) rfl hT) rfl ?_)
            refine EL_p (Pu_len rfl sl66 rfl) rfl ?_
            refine EL_p (Pu_cnv rfl in3 in21 (w32 (by omega))) rfl ?_
            refine EL_p (Pu_as rfl) rfl ?_
            refine EL_nil ?_
            refine CE_seq ?_
            refine CE_reg ?_
            refine EL_p (Pu_mv rfl) rfl ?_
            refine EL_p (Pu_mv rfl) rfl ?_
            refine EL_p (Pu_mv rfl) rfl ?_
            refine EL_L0 (Lo_mset (j := 6) (q := keyOf (h.T s.p) x) H14 rfl rfl rfl rfl Try.underlying84 Try.underlying85 hno (fun w15 H15 => ?_))
            refine EL_nil ?_
            refine CE_drawH H15 (fun w => w.cell? ⟨gb, 4, none⟩ = some (.slice (some ⟨tb, 0, none⟩) h.nt h.nt) ∧ w.cell? ⟨tb, (h.T s.p), none⟩ = some (s.g.Rt (h.T s.p)).val) [(0, 0), (1, 0), (2, 0), (3, 0), (4, 0), (5, 0), (6, 0), (7, 0), (8, 0), (9, 0), (10, 0), (11, 0), (12, 0), (13, 0), (14, 1), (15, 1), (16, 0), (17, 2)] mixed rfl (by kernel_rfl) (fun w16 H16 => ?_)
            have hSa := And.intro (H16.cell (j := 9) rfl (i := 4) (by decide)) (H16.cell (j := 12) rfl hT)
            refine AO_p rfl hSa (Pu.toIf (Pu_mv rfl)) rfl ?_
            refine AO_p rfl hSa (Pu.toIf (Pu_nil rfl)) rfl ?_
            refine AO_p rfl hSa (Pu.toIf (Pu_fld rfl fi65_4)) rfl ?_
            first | (refine AO_p rfl hSa (Ld rfl fl63 (fun w h => h.1)) rfl ?_) | (refine AO_p rfl hSa (Ld rfl fl63 (fun w h => h.2)) rfl ?_)
            refine AO_p rfl hSa (Pu.toIf (Pu_mv rfl)) rfl ?_
            refine AO_p rfl hSa (Pu.toIf (Pu_mv rfl)) rfl ?_
            refine AO_p rfl hSa (Pu.toIf (Pu_nil rfl)) rfl ?_
            refine AO_p rfl hSa (Pu.toIf (Pu_fld rfl fi65_4)) rfl ?_
            first | (refine AO_p rfl hSa (Ld rfl fl63 (fun w h => h.1)) rfl ?_) | (refine AO_p rfl hSa (Ld rfl fl63 (fun w h => h.2)) rfl ?_)
            refine AO_p rfl hSa (Pu.toIf (Pu_mv rfl)) rfl ?_
            refine AO_p rfl hSa (Pu.toIf (Pu_ix rfl rfl sl63 rfl hT)) rfl ?_
            first | (refine AO_p rfl hSa (Ld rfl fl66 (fun w h => h.1)) rfl ?_) | (refine AO_p rfl hSa (Ld rfl fl66 (fun w h => h.2)) rfl ?_)
            refine AO_p rfl hSa (Pu.toIf (Pu_mv rfl)) rfl ?_
            refine AO_p rfl hSa (Pu.toIf (Pu_build68 rfl rfl rfl rfl rfl rfl rfl rfl)) rfl ?_
            refine AO_L rfl rfl (Lo_bs8 H16 rfl Try.underlying66 ze68 rfl (fun bt w17 H17 => ?_))
            have hSb := And.intro (H17.cell (j := 10) rfl (i := 4) (by decide)) (H17.cell (j := 13) rfl hT)
            refine ⟨hSb, ?_⟩
            refine AO_L rfl rfl (Lo_append (j := 2) (q := (h.T s.p)) H17 rfl hT rfl rfl Try.underlying66 ze68 (by decide) (fun i hi => by rcases lt8 hi with rfl | rfl | rfl | rfl | rfl | rfl | rfl | rfl <;> rfl) (by omega) (by omega) (fun r' w18 hl18 hc18 H18 => ?_))
            have hSc := And.intro (H18.cell (j := 9) rfl (i := 4) (by decide)) (H18.cell (j := 12) rfl hT)
            refine ⟨hSc, ?_⟩
            refine AO_p rfl hSc (Pu.toIf (Pu_ix rfl rfl sl63 rfl hT)) rfl ?_
            refine AO_S0 rfl (Lo_st (j := 12) (i := (h.T s.p)) H18 rfl rfl rfl fl66 rfl hT (fun w19 H19 => ?_))
            refine AO_nil ?_
            have H20 := H19.congr (j := 12) rfl (fun k _ => hdr_upd _ _ _ _)
            have e0 : ((s.g.Rt (h.T s.p)).len : Int) = ((findT x (tchF h (h.T s.p) s.p)) : Int) := by omega
            refine ⟨⟨r', _, ?_, fun q => ?_, H20⟩, rfl, rfl, rfl, rfl, rfl, rfl, rfl, rfl, rfl, rfl, congrArg (fun z => some (Value.int .i32 z)) e0, trivial⟩
            · have h1 := RepT.app (c := newT x) htch hl18 hc18
              unfold addT
              rw [if_neg hnf]
              exact h1
            · rw [← e0]
          · refine CE_skip ?_
            obtain ⟨v, hv⟩ : ∃ v, s.g.f (keyOf (h.T s.p) x) = some v := by
              cases hq : s.g.f (keyOf (h.T s.p) x) with
              | none => rw [hq] at c133; cases c133
              | some v => exact ⟨v, rfl⟩
            have hsm := idxL_some (hidx.symm.trans hv)
            have e0 : (s.g.f (keyOf (h.T s.p) x)).getD 0 = ((findT x (tchF h (h.T s.p) s.p)) : Int) := by rw [hv]; exact hsm.2
            refine ⟨⟨s.g.Rt (h.T s.p), s.g.f, ?_, fun q => ?_, ?_⟩, rfl, rfl, rfl, rfl, rfl, rfl, rfl, rfl, rfl, rfl, congrArg (fun z => some (Value.int .i32 z)) e0, trivial⟩
            · unfold addT
              rw [if_pos hsm.1]
              exact htch
            · by_cases hq : q = keyOf (h.T s.p) x
              · rw [if_pos hq, hq, hv, hsm.2]
              · rw [if_neg hq]
            · rw [updR_eta]; exact H14
        obtain ⟨rt, f', hrt, hf', H15⟩ := hmid
        have hlt0 := addT_lt x (tchF h (h.T s.p) s.p)
        have hrtl := hrt.len
        have hal := addT_length x (tchF h (h.T s.p) s.p)
        obtain ⟨rb, hrb, hrv⟩ := H15.ublk (j := 2) rfl hT (by omega)
        have hw0 := hdr_self s.g.Rt (h.T s.p) rt
        have hwx := hi.wrt x hxm
        have hitm := itm_eq hx
        have hrng := wrtF_rng ho x s.p hp
        refine CE_seq ?_
        refine CE_drawH H15 (fun w => HP W0 w (Blk vb 3 (cellsF [.int .u8 (h.A s.p), .int .i64 0, .string ByteArray.empty]) :: Fam h.nt 1 21 (s.g.Ro) :: Fam h.nt 8 68 (updR s.g.Rt (h.T s.p) rt) :: Fam h.m 1 21 (s.g.Rw) :: Fam h.m 1 21 (s.g.Ra) :: Fam h.m 1 21 (s.g.Rr) :: MapK mb (f') :: Blk ib (h.m * 2) (itF (s.g.wr) (s.g.Rr)) :: Fam 1 1 21 Rl :: Blk gb 6 (cellsF (gcl h (Rl 0).val ab wb tb ub)) :: Blk ab h.m (hdr (s.g.Ra)) :: Blk wb h.m (hdr (s.g.Rw)) :: Blk tb h.nt (hdr (updR s.g.Rt (h.T s.p) rt)) :: Blk ub h.nt (hdr (s.g.Ro)) :: L)) [(0, 0), (1, 0), (2, 0), (3, 0), (4, 0), (5, 0), (6, 0), (7, 0), (8, 0), (9, 0), (10, 0), (11, 0), (12, 0), (13, 0)] mixed rfl (by kernel_rfl) (fun w16 H16 => ?_)
        refine AO_p rfl H16 (Pu.toIf (Pu_mv rfl)) rfl ?_
        refine AO_p rfl H16 (Pu.toIf (Pu_nil rfl)) rfl ?_
        refine AO_p rfl H16 (Pu.toIf (Pu_fld rfl fi65_4)) rfl ?_
        first | (refine AO_p rfl H16 (Ld rfl fl63 (fun w h => h.cell (j := 9) rfl (by decide))) rfl ?_) | (refine AO_p rfl H16 (Ld rfl fl63 (fun w h => (h.cell (j := 12) rfl hT).trans (congrArg some hw0))) rfl ?_)
        refine AO_p rfl H16 (Pu.toIf (Pu_mv rfl)) rfl ?_
        first | (refine AO_p rfl H16 (Pu.toIf (Pu_ix rfl rfl sl63 rfl hT)) rfl ?_) | (refine AO_p rfl H16 (Pu.toIf (Pu_ixm (congrArg some hrv) rfl sl63 rfl (by omega))) rfl ?_) | (refine AO_p rfl H16 (Pu.toIf (Pu_ixm (j := x) rfl rfl sl63 rfl hxm)) rfl ?_)
        first | (refine AO_p rfl H16 (Ld rfl fl66 (fun w h => h.cell (j := 9) rfl (by decide))) rfl ?_) | (refine AO_p rfl H16 (Ld rfl fl66 (fun w h => (h.cell (j := 12) rfl hT).trans (congrArg some hw0))) rfl ?_)
        refine AO_p rfl H16 (Pu.toIf (Pu_mv rfl)) rfl ?_
        first | (refine AO_p rfl H16 (Pu.toIf (Pu_ix rfl rfl sl66 rfl hT)) rfl ?_) | (refine AO_p rfl H16 (Pu.toIf (Pu_ixm (congrArg some hrv) rfl sl66 rfl (by omega))) rfl ?_) | (refine AO_p rfl H16 (Pu.toIf (Pu_ixm (j := x) rfl rfl sl66 rfl hxm)) rfl ?_)
        refine AO_p rfl H16 (Pu.toIf (Pu_mv rfl)) rfl ?_
        refine AO_p rfl H16 (Pu.toIf (Pu_mv rfl)) rfl ?_
        first | (refine AO_p rfl H16 (Pu.toIf (Pu_ix rfl rfl sl81 rfl hT)) rfl ?_) | (refine AO_p rfl H16 (Pu.toIf (Pu_ixm (congrArg some hrv) rfl sl81 rfl (by omega))) rfl ?_) | (refine AO_p rfl H16 (Pu.toIf (Pu_ixm (j := x) rfl rfl sl81 rfl hxm)) rfl ?_)
        refine AO_p rfl H16 (Pu.toIf (Pu_as rfl)) rfl ?_
        refine AO_p rfl H16 (Pu.toIf (Pu_as rfl)) rfl ?_
        refine AO_nil ?_
        refine CE_midI ([(0, .pointer (some ⟨h.hb, 0, none⟩)), (3, .pointer (some ⟨gb, 0, none⟩)), (5, .slice (some ⟨ib, 0, none⟩) h.m h.m), (7, .map (some mb)), (92, .slice (some ⟨h.ob, 0, none⟩) h.n h.n), (93, .int .i64 h.n), (94, .int .i64 s.p), (9, .pointer (some ⟨vb, 0, none⟩)), (10, .int .i32 x), (11, .int .i32 (h.T s.p)), (15, .pointer (some ⟨rb, (findT x (tchF h (h.T s.p) s.p)) * 8, none⟩)), (16, .pointer (some ⟨ib, x * 2, none⟩))]) (fun w' => ∃ Ro' : Nat → Row, (∀ u, u < h.nt → RepI (Ro' u) (outF h u s.p ++ wedge h s.p u)) ∧ HP W0 w' (Blk vb 3 (cellsF [.int .u8 (h.A s.p), .int .i64 0, .string ByteArray.empty]) :: Fam h.nt 1 21 (Ro') :: Fam h.nt 8 68 (updR s.g.Rt (h.T s.p) rt) :: Fam h.m 1 21 (s.g.Rw) :: Fam h.m 1 21 (s.g.Ra) :: Fam h.m 1 21 (s.g.Rr) :: MapK mb (f') :: Blk ib (h.m * 2) (itF (s.g.wr) (s.g.Rr)) :: Fam 1 1 21 Rl :: Blk gb 6 (cellsF (gcl h (Rl 0).val ab wb tb ub)) :: Blk ab h.m (hdr (s.g.Ra)) :: Blk wb h.m (hdr (s.g.Rw)) :: Blk tb h.nt (hdr (updR s.g.Rt (h.T s.p) rt)) :: Blk ub h.nt (hdr (Ro')) :: L)) ?_ (fun w17 hmid => ?_)
        · refine CE_seq ?_
          refine CE_reg ?_
          refine EL_p (Pu_mv rfl) rfl ?_
          refine EL_p (Pu_nil rfl) rfl ?_
          refine EL_p (Pu_fld rfl fi83_0) rfl ?_
          refine EL_ld rfl fl21 ((H16.cell (j := 7) rfl (i := x * 2) (by omega)).trans (congrArg some (itF_0 s.g.wr s.g.Rr x))) rfl ?_
          refine EL_p (Pu_geq rfl rfl) rfl ?_
          refine EL_p (Pu_mv rfl) rfl ?_
          refine EL_gP rfl rfl (fun g180 => ?_) (fun g180 => ?_)
          · refine EL_yes rfl rfl ?_
            refine EL_p (Pu_mv rfl) rfl ?_
            refine EL_yes rfl rfl ?_
            refine EL_p (Pu_nil rfl) rfl ?_
            refine EL_yes rfl rfl ?_
            refine EL_p (Pu_fld rfl fi83_0) rfl ?_
            refine EL_yes rfl rfl ?_
            refine EL_ld rfl fl21 ((H16.cell (j := 7) rfl (i := x * 2) (by omega)).trans (congrArg some (itF_0 s.g.wr s.g.Rr x))) rfl ?_
            refine EL_yes rfl rfl ?_
            refine EL_p (Pu_mv rfl) rfl ?_
            refine EL_yes rfl rfl ?_
            refine EL_p (Pu_neq rfl rfl) rfl ?_
            refine EL_p (Pu_pt rfl rfl) rfl ?_
            refine EL_nil ?_
            refine CE_cN rfl (fun c187 => ?_) (fun c187 => ?_)
            · obtain ⟨u0, hu0, hwu⟩ : ∃ u0 : Nat, u0 < h.nt ∧ s.g.wr x = (u0 : Nat) := by
                rcases hrng with h1 | ⟨u0, h1, h2⟩
                · omega
                · exact ⟨u0, h1, by omega⟩
              have houtl := outF_length h u0 hon s.p hp
              have hout := (hi.out u0 hu0).len
              refine CE_drawH H16 (fun w => w.cell? ⟨gb, 5, none⟩ = some (.slice (some ⟨ub, 0, none⟩) h.nt h.nt) ∧ w.cell? ⟨ib, x * 2, none⟩ = some (.int .i32 (s.g.wr x)) ∧ w.cell? ⟨ub, u0, none⟩ = some (s.g.Ro u0).val) [(0, 0), (1, 0), (2, 0), (3, 0), (4, 0), (5, 0), (6, 0), (7, 0), (8, 0), (9, 0), (10, 0), (11, 0), (12, 0), (13, 0), (14, 0), (15, 0), (16, 0), (17, 0), (18, 0), (19, 1), (20, 1), (21, 0), (22, 2)] mixed rfl (by kernel_rfl) (fun w18 H18 => ?_)
              have hSa := And.intro (H18.cell (j := 9) rfl (i := 5) (by decide)) (And.intro ((H18.cell (j := 7) rfl (i := x * 2) (by omega)).trans (congrArg some (itF_0 s.g.wr s.g.Rr x))) (H18.cell (j := 13) rfl hu0))
              refine AO_p rfl hSa (Pu.toIf (Pu_mv rfl)) rfl ?_
              refine AO_p rfl hSa (Pu.toIf (Pu_nil rfl)) rfl ?_
              refine AO_p rfl hSa (Pu.toIf (Pu_fld rfl fi65_5)) rfl ?_
              first | (refine AO_p rfl hSa (Ld rfl fl41 (fun w h => h.1)) rfl ?_) | (refine AO_p rfl hSa (Ld rfl fl41 (fun w h => h.2.1)) rfl ?_) | (refine AO_p rfl hSa (Ld rfl fl41 (fun w h => h.2.2)) rfl ?_)
              refine AO_p rfl hSa (Pu.toIf (Pu_mv rfl)) rfl ?_
              refine AO_p rfl hSa (Pu.toIf (Pu_nil rfl)) rfl ?_
              refine AO_p rfl hSa (Pu.toIf (Pu_fld rfl fi83_0)) rfl ?_
              first | (refine AO_p rfl hSa (Ld rfl fl21 (fun w h => h.1)) rfl ?_) | (refine AO_p rfl hSa (Ld rfl fl21 (fun w h => h.2.1)) rfl ?_) | (refine AO_p rfl hSa (Ld rfl fl21 (fun w h => h.2.2)) rfl ?_)
              refine AO_p rfl hSa (Pu.toIf (Pu_mv rfl)) rfl ?_
              refine AO_p rfl hSa (Pu.toIf (Pu_nil rfl)) rfl ?_
              refine AO_p rfl hSa (Pu.toIf (Pu_fld rfl fi65_5)) rfl ?_
              first | (refine AO_p rfl hSa (Ld rfl fl41 (fun w h => h.1)) rfl ?_) | (refine AO_p rfl hSa (Ld rfl fl41 (fun w h => h.2.1)) rfl ?_) | (refine AO_p rfl hSa (Ld rfl fl41 (fun w h => h.2.2)) rfl ?_)
              refine AO_p rfl hSa (Pu.toIf (Pu_mv rfl)) rfl ?_
              refine AO_p rfl hSa (Pu.toIf (Pu_nil rfl)) rfl ?_
              refine AO_p rfl hSa (Pu.toIf (Pu_fld rfl fi83_0)) rfl ?_
              first | (refine AO_p rfl hSa (Ld rfl fl21 (fun w h => h.1)) rfl ?_) | (refine AO_p rfl hSa (Ld rfl fl21 (fun w h => h.2.1)) rfl ?_) | (refine AO_p rfl hSa (Ld rfl fl21 (fun w h => h.2.2)) rfl ?_)
              refine AO_p rfl hSa (Pu.toIf (Pu_ix (j := u0) rfl rfl sl41 hwu hu0)) rfl ?_
              first | (refine AO_p rfl hSa (Ld rfl fl24 (fun w h => h.1)) rfl ?_) | (refine AO_p rfl hSa (Ld rfl fl24 (fun w h => h.2.1)) rfl ?_) | (refine AO_p rfl hSa (Ld rfl fl24 (fun w h => h.2.2)) rfl ?_)
              refine AO_p rfl hSa (Pu.toIf (Pu_mv rfl)) rfl ?_
              refine AO_L rfl rfl (Lo_bs H18 rfl rfl Try.underlying24 ze21 (fun bt w19 H19 => ?_))
              have hSb := And.intro (H19.cell (j := 10) rfl (i := 5) (by decide)) (And.intro ((H19.cell (j := 8) rfl (i := x * 2) (by omega)).trans (congrArg some (itF_0 s.g.wr s.g.Rr x))) (H19.cell (j := 14) rfl hu0))
              refine ⟨hSb, ?_⟩
              refine AO_L rfl rfl (Lo_append (j := 1) (q := u0) H19 rfl hu0 rfl rfl Try.underlying24 ze21 (by decide) (fun _ _ => rfl) (by omega) (by omega) (fun r' w20 hl20 hc20 H20 => ?_))
              have hSc := And.intro (H20.cell (j := 9) rfl (i := 5) (by decide)) (And.intro ((H20.cell (j := 7) rfl (i := x * 2) (by omega)).trans (congrArg some (itF_0 s.g.wr s.g.Rr x))) (H20.cell (j := 13) rfl hu0))
              refine ⟨hSc, ?_⟩
              refine AO_p rfl hSc (Pu.toIf (Pu_ix (j := u0) rfl rfl sl41 hwu hu0)) rfl ?_
              refine AO_S0 rfl (Lo_st (j := 13) (i := u0) H20 rfl rfl rfl fl24 rfl hu0 (fun w21 H21 => ?_))
              refine AO_nil ?_
              have H22 := H21.congr (j := 13) rfl (fun k _ => hdr_upd _ _ _ _)
              have hne : u0 ≠ (h.T s.p) := by omega
              exact ⟨⟨updR s.g.Ro u0 r', out_wedge hi (by rw [hitm, ← hwx, hwu]) hne ((hi.out u0 hu0).app hl20 hc20 rfl), H22⟩, rfl, rfl, rfl, rfl, rfl, rfl, rfl, rfl, rfl, rfl, rfl, rfl, trivial⟩
            · refine CE_skip ?_
              exact ⟨⟨s.g.Ro, out_nowedge hi (by rw [hitm, ← hwx]; omega), H16⟩, rfl, rfl, rfl, rfl, rfl, rfl, rfl, rfl, rfl, rfl, rfl, rfl, trivial⟩
          · refine EL_no rfl rfl rfl rfl ?_
            refine EL_no rfl rfl rfl rfl ?_
            refine EL_no rfl rfl rfl rfl ?_
            refine EL_no rfl rfl rfl rfl ?_
            refine EL_no rfl rfl rfl rfl ?_
            refine EL_no rfl rfl rfl rfl ?_
            refine EL_p (Pu_pf rfl rfl) rfl ?_
            refine EL_nil ?_
            refine CE_cond_f rfl ?_
            refine CE_skip ?_
            exact ⟨⟨s.g.Ro, out_nowedge hi (by rw [hitm, ← hwx]; omega), H16⟩, rfl, rfl, rfl, rfl, rfl, rfl, rfl, rfl, rfl, rfl, rfl, rfl, trivial⟩
        obtain ⟨Ro', hRo, H17⟩ := hmid
        refine CE_midG (fun (g' : NG) => [(0, .pointer (some ⟨h.hb, 0, none⟩)), (3, .pointer (some ⟨gb, 0, none⟩)), (5, .slice (some ⟨ib, 0, none⟩) h.m h.m), (7, .map (some mb)), (92, .slice (some ⟨h.ob, 0, none⟩) h.n h.n), (93, .int .i64 h.n), (94, .int .i64 s.p), (9, .pointer (some ⟨vb, 0, none⟩)), (10, .int .i32 x), (11, .int .i32 (h.T s.p))]) (fun g' w' => NInv h g' s.p (s.p + 1) ∧ HP W0 w' (Blk vb 3 (cellsF [.int .u8 (h.A s.p), .int .i64 0, .string ByteArray.empty]) :: Fam h.nt 1 21 (g'.Ro) :: Fam h.nt 8 68 (g'.Rt) :: Fam h.m 1 21 (g'.Rw) :: Fam h.m 1 21 (g'.Ra) :: Fam h.m 1 21 (g'.Rr) :: MapK mb (g'.f) :: Blk ib (h.m * 2) (itF (g'.wr) (g'.Rr)) :: Fam 1 1 21 Rl :: Blk gb 6 (cellsF (gcl h (Rl 0).val ab wb tb ub)) :: Blk ab h.m (hdr (g'.Ra)) :: Blk wb h.m (hdr (g'.Rw)) :: Blk tb h.nt (hdr (g'.Rt)) :: Blk ub h.nt (hdr (g'.Ro)) :: L)) ?_ (fun g' w18 hmid => ?_)
        · refine CE_seq ?_
          refine CE_reg ?_
          refine EL_p (Pu_fld rfl fi57_0) rfl ?_
          refine EL_ld rfl fl55 (H17.cell (j := 0) rfl (by decide)) rfl ?_
          refine EL_nil ?_
          refine CE_block ?_
          refine CE_seq ?_
          refine CE_reg ?_
          refine EL_p (Pu_eql rfl rfl) rfl ?_
          refine EL_p (Pu_as rfl) rfl ?_
          refine EL_nil ?_
          refine CE_cP rfl (fun c212 => ?_) (fun c212 => ?_)
          · have hA : h.A s.p = 114 := c212
            refine CE_midI ([(0, .pointer (some ⟨h.hb, 0, none⟩)), (3, .pointer (some ⟨gb, 0, none⟩)), (5, .slice (some ⟨ib, 0, none⟩) h.m h.m), (7, .map (some mb)), (92, .slice (some ⟨h.ob, 0, none⟩) h.n h.n), (93, .int .i64 h.n), (94, .int .i64 s.p), (9, .pointer (some ⟨vb, 0, none⟩)), (10, .int .i32 x), (11, .int .i32 (h.T s.p)), (15, .pointer (some ⟨rb, (findT x (tchF h (h.T s.p) s.p)) * 8, none⟩)), (16, .pointer (some ⟨ib, x * 2, none⟩))]) (fun w' => ∃ r1 : Row, r1.val = rt.val ∧ r1.blk = some rb ∧ RepT r1 (setT rdT1 (findT x (tchF h (h.T s.p) s.p)) (addT x (tchF h (h.T s.p) s.p))) ∧ HP W0 w' (Blk vb 3 (cellsF [.int .u8 (h.A s.p), .int .i64 0, .string ByteArray.empty]) :: Fam h.nt 1 21 (Ro') :: Fam h.nt 8 68 (updR s.g.Rt (h.T s.p) (r1)) :: Fam h.m 1 21 (s.g.Rw) :: Fam h.m 1 21 (s.g.Ra) :: Fam h.m 1 21 (s.g.Rr) :: MapK mb (f') :: Blk ib (h.m * 2) (itF (s.g.wr) (s.g.Rr)) :: Fam 1 1 21 Rl :: Blk gb 6 (cellsF (gcl h (Rl 0).val ab wb tb ub)) :: Blk ab h.m (hdr (s.g.Ra)) :: Blk wb h.m (hdr (s.g.Rw)) :: Blk tb h.nt (hdr (updR s.g.Rt (h.T s.p) rt)) :: Blk ub h.nt (hdr (Ro')) :: L)) ?_ (fun w18 hmid => ?_)
            · refine CE_seq ?_
              refine CE_reg ?_
              refine EL_p (Pu_mv rfl) rfl ?_
              refine EL_p (Pu_nil rfl) rfl ?_
              refine EL_p (Pu_fld rfl fi68_1) rfl ?_
              refine EL_ld rfl fl21 ((H17.ucell (j := 2) rfl hT hrb (i := (findT x (tchF h (h.T s.p) s.p)) * 8 + 1) (by omega)).trans (congrArg some (hrt.gsa hlt0))) rfl ?_
              refine EL_p (Pu_lss rfl rfl) rfl ?_
              refine EL_nil ?_
              refine CE_cP rfl (fun c218 => ?_) (fun c218 => ?_)
              · refine CE_reg ?_
                refine EL_p (Pu_mv rfl) rfl ?_
                refine EL_p (Pu_nil rfl) rfl ?_
                refine EL_p (Pu_fld rfl fi68_5) rfl ?_
                refine EL_L0 (Lo_ust (j := 2) (i := (findT x (tchF h (h.T s.p) s.p)) * 8 + 5) H17 rfl hT hrb rfl rfl fl4 rfl (by omega) (fun w18 H18 => ?_))
                refine EL_nil ?_
                refine ⟨⟨⟨rt.blk, rt.len, rt.cap, setF rt.c ((findT x (tchF h (h.T s.p) s.p)) * 8 + 5) (.bool true)⟩, rfl, hrb, ?_, H18⟩, rfl, rfl, rfl, rfl, rfl, rfl, rfl, rfl, rfl, rfl, rfl, rfl, trivial⟩
                have h1 := hrt.rf hlt0 true
                rw [setT_congr (fun c : Tch => { c with rf := true }) rdT1 (newT 0)] at h1
                · exact h1
                · unfold rdT1; rw [if_pos c218]
              · refine CE_skip ?_
                refine ⟨⟨rt, rfl, hrb, ?_, H17⟩, rfl, rfl, rfl, rfl, rfl, rfl, rfl, rfl, rfl, rfl, rfl, rfl, trivial⟩
                rw [setT_id rdT1 (newT 0)]
                · exact hrt
                · unfold rdT1; rw [if_neg c218]
            obtain ⟨r1, hv1, hb1, hr1, H18⟩ := hmid
            have hl1 := hr1.len
            rw [setT_length] at hl1
            have hlt1 : (findT x (tchF h (h.T s.p) s.p)) < (setT rdT1 (findT x (tchF h (h.T s.p) s.p)) (addT x (tchF h (h.T s.p) s.p))).length := by rw [setT_length]; exact hlt0
            have hwrs := hi.wrs x hxm
            have hwl := hwrs.len
            have hwl2 := wrsF_length h x s.p
            refine CE_midI ([(0, .pointer (some ⟨h.hb, 0, none⟩)), (3, .pointer (some ⟨gb, 0, none⟩)), (5, .slice (some ⟨ib, 0, none⟩) h.m h.m), (7, .map (some mb)), (92, .slice (some ⟨h.ob, 0, none⟩) h.n h.n), (93, .int .i64 h.n), (94, .int .i64 s.p), (9, .pointer (some ⟨vb, 0, none⟩)), (10, .int .i32 x), (11, .int .i32 (h.T s.p)), (15, .pointer (some ⟨rb, (findT x (tchF h (h.T s.p) s.p)) * 8, none⟩)), (16, .pointer (some ⟨ib, x * 2, none⟩))]) (fun w' => ∃ r2 : Row, r2.val = rt.val ∧ r2.blk = some rb ∧ RepT r2 (setT (fun c => rdT2 (wrsF h x s.p).length (rdT1 c)) (findT x (tchF h (h.T s.p) s.p)) (addT x (tchF h (h.T s.p) s.p))) ∧ HP W0 w' (Blk vb 3 (cellsF [.int .u8 (h.A s.p), .int .i64 0, .string ByteArray.empty]) :: Fam h.nt 1 21 (Ro') :: Fam h.nt 8 68 (updR s.g.Rt (h.T s.p) (r2)) :: Fam h.m 1 21 (s.g.Rw) :: Fam h.m 1 21 (s.g.Ra) :: Fam h.m 1 21 (s.g.Rr) :: MapK mb (f') :: Blk ib (h.m * 2) (itF (s.g.wr) (s.g.Rr)) :: Fam 1 1 21 Rl :: Blk gb 6 (cellsF (gcl h (Rl 0).val ab wb tb ub)) :: Blk ab h.m (hdr (s.g.Ra)) :: Blk wb h.m (hdr (s.g.Rw)) :: Blk tb h.nt (hdr (updR s.g.Rt (h.T s.p) rt)) :: Blk ub h.nt (hdr (Ro')) :: L)) ?_ (fun w19 hmid => ?_)
            · refine CE_seq ?_
              refine CE_reg ?_
              refine EL_p (Pu_mv rfl) rfl ?_
              refine EL_p (Pu_nil rfl) rfl ?_
              refine EL_p (Pu_fld rfl fi68_2) rfl ?_
              refine EL_ld rfl fl21 ((H18.ucell (j := 2) rfl hT hb1 (i := (findT x (tchF h (h.T s.p) s.p)) * 8 + 2) (by omega)).trans (congrArg some (hr1.gsw hlt1))) rfl ?_
              refine EL_p (Pu_lss rfl rfl) rfl ?_
              refine EL_nil ?_
              refine CE_cP rfl (fun c226 => ?_) (fun c226 => ?_)
              · refine CE_reg ?_
                refine EL_p (Pu_mv rfl) rfl ?_
                refine EL_p (Pu_mv rfl) rfl ?_
                refine EL_p (Pu_nil rfl) rfl ?_
                refine EL_p (Pu_fld rfl fi65_3) rfl ?_
                first | (refine EL_ld rfl fl41 (H18.cell (j := 9) rfl (by decide)) rfl ?_) | (refine EL_ld rfl fl41 (H18.cell (j := 11) rfl hxm) rfl ?_)
                refine EL_p (Pu_mv rfl) rfl ?_
                refine EL_p (Pu_ix rfl rfl sl41 rfl hxm) rfl ?_
                first | (refine EL_ld rfl fl24 (H18.cell (j := 9) rfl (by decide)) rfl ?_) | (refine EL_ld rfl fl24 (H18.cell (j := 11) rfl hxm) rfl ?_)
                refine EL_p (Pu_len rfl sl24 rfl) rfl ?_
                refine EL_p (Pu_cnv rfl in3 in21 (w32 (by omega))) rfl ?_
                refine EL_p (Pu_nil rfl) rfl ?_
                refine EL_p (Pu_fld rfl fi68_2) rfl ?_
                refine EL_L0 (Lo_ust (j := 2) (i := (findT x (tchF h (h.T s.p) s.p)) * 8 + 2) H18 rfl hT hb1 rfl rfl fl21 rfl (by omega) (fun w19 H19 => ?_))
                refine EL_nil ?_
                refine ⟨⟨⟨r1.blk, r1.len, r1.cap, setF r1.c ((findT x (tchF h (h.T s.p) s.p)) * 8 + 2) (.int .i32 (s.g.Rw x).len)⟩, hv1, hb1, ?_, H19⟩, rfl, rfl, rfl, rfl, rfl, rfl, rfl, rfl, rfl, rfl, rfl, rfl, trivial⟩
                have h1 := hr1.sw hlt1 ((s.g.Rw x).len : Int)
                rw [setT_congr (fun c : Tch => { c with sw := ((s.g.Rw x).len : Int) }) (rdT2 (wrsF h x s.p).length) (newT 0), setT_setT] at h1
                · exact h1
                · unfold rdT2; rw [if_pos c226, hwl]
              · refine CE_skip ?_
                refine ⟨⟨r1, hv1, hb1, ?_, H18⟩, rfl, rfl, rfl, rfl, rfl, rfl, rfl, rfl, rfl, rfl, rfl, rfl, trivial⟩
                have h1 := hr1
                rw [← setT_id (rdT2 (wrsF h x s.p).length) (newT 0) (findT x (tchF h (h.T s.p) s.p)) (setT rdT1 (findT x (tchF h (h.T s.p) s.p)) (addT x (tchF h (h.T s.p) s.p))) (by unfold rdT2; rw [if_neg c226]), setT_setT] at h1
                exact h1
            obtain ⟨r2, hv2, hb2, hr2, H19⟩ := hmid
            have hl2 := hr2.len
            rw [setT_length] at hl2
            have hlt2 : (findT x (tchF h (h.T s.p) s.p)) < (setT (fun c => rdT2 (wrsF h x s.p).length (rdT1 c)) (findT x (tchF h (h.T s.p) s.p)) (addT x (tchF h (h.T s.p) s.p))).length := by rw [setT_length]; exact hlt0
            refine CE_seq ?_
            refine CE_reg ?_
            refine EL_p (Pu_mv rfl) rfl ?_
            refine EL_p (Pu_mv rfl) rfl ?_
            refine EL_p (Pu_nil rfl) rfl ?_
            refine EL_p (Pu_fld rfl fi65_3) rfl ?_
            first | (refine EL_ld rfl fl41 (H19.cell (j := 9) rfl (by decide)) rfl ?_) | (refine EL_ld rfl fl41 (H19.cell (j := 11) rfl hxm) rfl ?_)
            refine EL_p (Pu_mv rfl) rfl ?_
            refine EL_p (Pu_ix rfl rfl sl41 rfl hxm) rfl ?_
            first | (refine EL_ld rfl fl24 (H19.cell (j := 9) rfl (by decide)) rfl ?_) | (refine EL_ld rfl fl24 (H19.cell (j := 11) rfl hxm) rfl ?_)
            refine EL_p (Pu_len rfl sl24 rfl) rfl ?_
            refine EL_p (Pu_cnv rfl in3 in21 (w32 (by omega))) rfl ?_
            refine EL_p (Pu_nil rfl) rfl ?_
            refine EL_p (Pu_fld rfl fi68_4) rfl ?_
            refine EL_L0 (Lo_ust (j := 2) (i := (findT x (tchF h (h.T s.p) s.p)) * 8 + 4) H19 rfl hT hb2 rfl rfl fl21 rfl (by omega) (fun w20 H20 => ?_))
            have hr3 : RepT ⟨r2.blk, r2.len, r2.cap, setF r2.c ((findT x (tchF h (h.T s.p) s.p)) * 8 + 4) (.int .i32 (s.g.Rw x).len)⟩ (setT (fun c => { rdT2 (wrsF h x s.p).length (rdT1 c) with pw := ((wrsF h x s.p).length : Int) }) (findT x (tchF h (h.T s.p) s.p)) (addT x (tchF h (h.T s.p) s.p))) := by
              have h1 := hr2.pw hlt2 ((s.g.Rw x).len : Int)
              rw [setT_setT] at h1
              rw [← hwl] at h1 ⊢
              exact h1
            have hlt3 : (findT x (tchF h (h.T s.p) s.p)) < (setT (fun c => { rdT2 (wrsF h x s.p).length (rdT1 c) with pw := ((wrsF h x s.p).length : Int) }) (findT x (tchF h (h.T s.p) s.p)) (addT x (tchF h (h.T s.p) s.p))).length := by rw [setT_length]; exact hlt0
            refine EL_nil ?_
            refine CE_midI ([(0, .pointer (some ⟨h.hb, 0, none⟩)), (3, .pointer (some ⟨gb, 0, none⟩)), (5, .slice (some ⟨ib, 0, none⟩) h.m h.m), (7, .map (some mb)), (92, .slice (some ⟨h.ob, 0, none⟩) h.n h.n), (93, .int .i64 h.n), (94, .int .i64 s.p), (9, .pointer (some ⟨vb, 0, none⟩)), (10, .int .i32 x), (11, .int .i32 (h.T s.p)), (15, .pointer (some ⟨rb, (findT x (tchF h (h.T s.p) s.p)) * 8, none⟩)), (16, .pointer (some ⟨ib, x * 2, none⟩))]) (fun w' => ∃ r4 : Row, r4.val = rt.val ∧ r4.blk = some rb ∧ RepT r4 (setT (rdT (wrsF h x s.p).length (wrtF h x s.p) (h.T s.p)) (findT x (tchF h (h.T s.p) s.p)) (addT x (tchF h (h.T s.p) s.p))) ∧ HP W0 w' (Blk vb 3 (cellsF [.int .u8 (h.A s.p), .int .i64 0, .string ByteArray.empty]) :: Fam h.nt 1 21 (Ro') :: Fam h.nt 8 68 (updR s.g.Rt (h.T s.p) (r4)) :: Fam h.m 1 21 (s.g.Rw) :: Fam h.m 1 21 (s.g.Ra) :: Fam h.m 1 21 (s.g.Rr) :: MapK mb (f') :: Blk ib (h.m * 2) (itF (s.g.wr) (s.g.Rr)) :: Fam 1 1 21 Rl :: Blk gb 6 (cellsF (gcl h (Rl 0).val ab wb tb ub)) :: Blk ab h.m (hdr (s.g.Ra)) :: Blk wb h.m (hdr (s.g.Rw)) :: Blk tb h.nt (hdr (updR s.g.Rt (h.T s.p) rt)) :: Blk ub h.nt (hdr (Ro')) :: L)) ?_ (fun w21 hmid => ?_)
            · refine CE_seq ?_
              refine CE_reg ?_
              refine EL_p (Pu_mv rfl) rfl ?_
              refine EL_p (Pu_nil rfl) rfl ?_
              refine EL_p (Pu_fld rfl fi83_0) rfl ?_
              refine EL_ld rfl fl21 ((H20.cell (j := 7) rfl (i := x * 2) (by omega)).trans (congrArg some (itF_0 s.g.wr s.g.Rr x))) rfl ?_
              refine EL_p (Pu_mv rfl) rfl ?_
              refine EL_p (Pu_neq rfl rfl) rfl ?_
              refine EL_nil ?_
              refine CE_cN rfl (fun c256 => ?_) (fun c256 => ?_)
              · refine CE_reg ?_
                refine EL_p (Pu_mv rfl) rfl ?_
                refine EL_p (Pu_mv rfl) rfl ?_
                refine EL_p (Pu_nil rfl) rfl ?_
                refine EL_p (Pu_fld rfl fi83_0) rfl ?_
                refine EL_ld rfl fl21 ((H20.cell (j := 7) rfl (i := x * 2) (by omega)).trans (congrArg some (itF_0 s.g.wr s.g.Rr x))) rfl ?_
                refine EL_L rfl (Lo_call ca47 rfl ((addSource47 (j := 2) H20 rfl hT hb2 hr3 hlt3 (show -1 ≤ s.g.wr x by rcases hrng with h1 | ⟨_, _, h1⟩ <;> omega)).mono (fun y w21 hh => ?_)))
                obtain ⟨hy, c', hr4, H21⟩ := hh
                refine ⟨_, hy, ?_⟩
                refine EL_nil ?_
                refine ⟨⟨⟨r2.blk, r2.len, r2.cap, c'⟩, hv2, hb2, ?_, H21⟩, rfl, rfl, rfl, rfl, rfl, rfl, rfl, rfl, rfl, rfl, rfl, rfl, trivial⟩
                rw [setT_setT] at hr4
                have e : rdT (wrsF h x s.p).length (wrtF h x s.p) (h.T s.p) = fun c => addSrc { rdT2 (wrsF h x s.p).length (rdT1 c) with pw := ((wrsF h x s.p).length : Int) } (s.g.wr x) := by
                  funext c
                  unfold rdT
                  rw [hwx] at c256
                  rw [if_neg c256, hwx]
                rw [e]; exact hr4
              · refine CE_skip ?_
                refine ⟨⟨⟨r2.blk, r2.len, r2.cap, setF r2.c ((findT x (tchF h (h.T s.p) s.p)) * 8 + 4) (.int .i32 (s.g.Rw x).len)⟩, hv2, hb2, ?_, H20⟩, rfl, rfl, rfl, rfl, rfl, rfl, rfl, rfl, rfl, rfl, rfl, rfl, trivial⟩
                have e : rdT (wrsF h x s.p).length (wrtF h x s.p) (h.T s.p) = fun c => { rdT2 (wrsF h x s.p).length (rdT1 c) with pw := ((wrsF h x s.p).length : Int) } := by
                  funext c
                  unfold rdT
                  rw [hwx] at c256
                  rw [if_pos c256]
                rw [e]; exact hr3
            obtain ⟨r4, hv4, hb4, hr4, H21⟩ := hmid
            have hrds := hi.rds x hxm
            have hrdl := hrds.len
            have hrdl2 := rdsF_length h x s.p
            refine CE_reg ?_
            refine EL_p (Pu_mv rfl) rfl ?_
            refine EL_p (Pu_mv rfl) rfl ?_
            refine EL_p (Pu_nil rfl) rfl ?_
            refine EL_p (Pu_fld rfl fi83_1) rfl ?_
            refine EL_ld rfl fl24 ((H21.cell (j := 7) rfl (i := x * 2 + 1) (by omega)).trans (congrArg some (itF_1 s.g.wr s.g.Rr x))) rfl ?_
            refine EL_p (Pu_mv rfl) rfl ?_
            refine EL_L rfl (Lo_bs H21 rfl rfl Try.underlying24 ze21 (fun bt w22 H22 => ?_))
            refine EL_L rfl (Lo_append (j := 5) (q := x) H22 rfl hxm rfl rfl Try.underlying24 ze21 (by decide) (fun _ _ => rfl) (by omega) (by omega) (fun rr w23 hl23 hc23 H23 => ?_))
            refine EL_p (Pu_nil rfl) rfl ?_
            refine EL_p (Pu_fld rfl fi83_1) rfl ?_
            refine EL_L0 (Lo_st (j := 7) (i := x * 2 + 1) H23 rfl rfl rfl fl24 rfl (by omega) (fun w24 H24 => ?_))
            refine EL_nil ?_
            have H25 := (H24.congr (j := 7) rfl (fun k _ => itF_rd s.g.wr s.g.Rr x rr k)).congr (j := 12) rfl (fun k _ => hdr_same s.g.Rt (h.T s.p) hv4 k)
            exact ⟨⟨s.g.Ra, s.g.Rw, updR s.g.Rt (h.T s.p) r4, Ro', updR s.g.Rr x rr, s.g.wr, f'⟩, ⟨hi.read hl hx hxm hom hA rfl hr4 hRo (hrds.app hl23 hc23 rfl) hf', H25⟩, rfl, rfl, rfl, rfl, rfl, rfl, rfl, rfl, rfl, rfl, trivial⟩
          · refine CE_seq ?_
            refine CE_reg ?_
            refine EL_p (Pu_eql rfl rfl) rfl ?_
            refine EL_p (Pu_as rfl) rfl ?_
            refine EL_nil ?_
            refine CE_cP rfl (fun c273 => ?_) (fun c273 => ?_)
            · have hA : h.A s.p = 119 := c273
              have hrds := hi.rds x hxm
              have hrdl := hrds.len
              have hrdl2 := rdsF_length h x s.p
              refine CE_seq ?_
              refine CE_seq ?_
              refine CE_reg ?_
              refine EL_p (Pu_mv rfl) rfl ?_
              refine EL_p (Pu_nil rfl) rfl ?_
              refine EL_p (Pu_fld rfl fi83_1) rfl ?_
              refine EL_ld rfl fl24 ((H17.cell (j := 7) rfl (i := x * 2 + 1) (by omega)).trans (congrArg some (itF_1 s.g.wr s.g.Rr x))) rfl ?_
              refine EL_p (Pu_len rfl sl24 rfl) rfl ?_
              refine EL_p (Pu_mv rfl) rfl ?_
              refine EL_nil ?_
              refine CE_block ?_
              refine CE_loop (fun (k : Nat) w' => k ≤ (rdsF h x s.p).length ∧ ∃ Rq : Nat → Row, (∀ u, u < h.nt → RepI (Rq u) ((outF h u s.p ++ wedge h s.p u) ++ redges (h.T s.p) u ((rdsF h x s.p).take k))) ∧ HP W0 w' (Blk vb 3 (cellsF [.int .u8 (h.A s.p), .int .i64 0, .string ByteArray.empty]) :: Fam h.nt 1 21 (Rq) :: Fam h.nt 8 68 (updR s.g.Rt (h.T s.p) rt) :: Fam h.m 1 21 (s.g.Rw) :: Fam h.m 1 21 (s.g.Ra) :: Fam h.m 1 21 (s.g.Rr) :: MapK mb (f') :: Blk ib (h.m * 2) (itF (s.g.wr) (s.g.Rr)) :: Fam 1 1 21 Rl :: Blk gb 6 (cellsF (gcl h (Rl 0).val ab wb tb ub)) :: Blk ab h.m (hdr (s.g.Ra)) :: Blk wb h.m (hdr (s.g.Rw)) :: Blk tb h.nt (hdr (updR s.g.Rt (h.T s.p) rt)) :: Blk ub h.nt (hdr (Rq)) :: L)) (fun k => [(0, .pointer (some ⟨h.hb, 0, none⟩)), (3, .pointer (some ⟨gb, 0, none⟩)), (5, .slice (some ⟨ib, 0, none⟩) h.m h.m), (7, .map (some mb)), (92, .slice (some ⟨h.ob, 0, none⟩) h.n h.n), (93, .int .i64 h.n), (94, .int .i64 s.p), (9, .pointer (some ⟨vb, 0, none⟩)), (10, .int .i32 x), (11, .int .i32 (h.T s.p)), (15, .pointer (some ⟨rb, (findT x (tchF h (h.T s.p) s.p)) * 8, none⟩)), (16, .pointer (some ⟨ib, x * 2, none⟩)), (278, (s.g.Rr x).val), (279, .int .i64 (s.g.Rr x).len), (280, .int .i64 k)]) (fun k => (rdsF h x s.p).length - k) 0 ⟨Nat.zero_le _, Ro', fun u hu => (by rw [List.take_zero]; show RepI _ (_ ++ []); rw [List.append_nil]; exact hRo u hu), H17⟩ ⟨rfl, rfl, rfl, rfl, rfl, rfl, rfl, rfl, rfl, rfl, rfl, rfl, rfl, rfl, rfl, trivial⟩ ?_
              rintro k w18 ⟨hk, Rq, hRq, H18⟩
              refine CE_seq ?_
              refine CE_reg ?_
              refine EL_p (Pu_lss rfl rfl) rfl ?_
              refine EL_nil ?_
              refine CE_seq ?_
              refine CE_cP rfl (fun c281 => ?_) (fun c281 => ?_)
              · have hkl : k < (rdsF h x s.p).length := by omega
                obtain ⟨rrb, hrrb, hrrv⟩ := H18.rblk (j := 5) rfl hxm (by omega)
                have hrk := rdsF_rng ho x s.p hp _ (getD_mem hkl)
                refine CE_skip ?_
                refine CE_seq ?_
                refine CE_block ?_
                refine CE_seq ?_
                refine CE_reg ?_
                refine EL_p (Pu_ix (congrArg some hrrv) rfl sl24 rfl (by omega)) rfl ?_
                refine EL_ld rfl fl21 ((H18.rcell (j := 5) rfl hxm hrrb (i := k) (by omega)).trans (congrArg some (hrds.c k hkl))) rfl ?_
                refine EL_p (Pu_as rfl) rfl ?_
                refine EL_nil ?_
                refine CE_seq ?_
                refine CE_reg ?_
                refine EL_p (Pu_mv rfl) rfl ?_
                refine EL_p (Pu_mv rfl) rfl ?_
                refine EL_p (Pu_neq rfl rfl) rfl ?_
                refine EL_nil ?_
                refine CE_cN rfl (fun c286 => ?_) (fun c286 => ?_)
                · have hlq := (hRq _ hrk).len
                  rw [List.length_append, List.length_append] at hlq
                  have hq1 := outF_length h ((rdsF h x s.p).getD k 0) hon s.p hp
                  have hq2 := wedge_length h s.p ((rdsF h x s.p).getD k 0)
                  have hq3 := redges_length (h.T s.p) ((rdsF h x s.p).getD k 0) ((rdsF h x s.p).take k)
                  have hq4 : ((rdsF h x s.p).take k).length ≤ k := List.length_take_le _ _
                  refine CE_drawH H18 (fun w => w.cell? ⟨gb, 5, none⟩ = some (.slice (some ⟨ub, 0, none⟩) h.nt h.nt) ∧ w.cell? ⟨ub, ((rdsF h x s.p).getD k 0), none⟩ = some (Rq ((rdsF h x s.p).getD k 0)).val) [(0, 0), (1, 0), (2, 0), (3, 0), (4, 0), (5, 0), (6, 0), (7, 0), (8, 0), (9, 0), (10, 0), (11, 0), (12, 0), (13, 1), (14, 1), (15, 0), (16, 2)] mixed rfl (by kernel_rfl) (fun w19 H19 => ?_)
                  have hSa := And.intro (H19.cell (j := 9) rfl (i := 5) (by decide)) (H19.cell (j := 13) rfl hrk)
                  refine AO_p rfl hSa (Pu.toIf (Pu_mv rfl)) rfl ?_
                  refine AO_p rfl hSa (Pu.toIf (Pu_nil rfl)) rfl ?_
                  refine AO_p rfl hSa (Pu.toIf (Pu_fld rfl fi65_5)) rfl ?_
                  first | (refine AO_p rfl hSa (Ld rfl fl41 (fun w h => h.1)) rfl ?_) | (refine AO_p rfl hSa (Ld rfl fl41 (fun w h => h.2)) rfl ?_)
                  refine AO_p rfl hSa (Pu.toIf (Pu_mv rfl)) rfl ?_
                  refine AO_p rfl hSa (Pu.toIf (Pu_mv rfl)) rfl ?_
                  refine AO_p rfl hSa (Pu.toIf (Pu_nil rfl)) rfl ?_
                  refine AO_p rfl hSa (Pu.toIf (Pu_fld rfl fi65_5)) rfl ?_
                  first | (refine AO_p rfl hSa (Ld rfl fl41 (fun w h => h.1)) rfl ?_) | (refine AO_p rfl hSa (Ld rfl fl41 (fun w h => h.2)) rfl ?_)
                  refine AO_p rfl hSa (Pu.toIf (Pu_mv rfl)) rfl ?_
                  refine AO_p rfl hSa (Pu.toIf (Pu_ix rfl rfl sl41 rfl hrk)) rfl ?_
                  first | (refine AO_p rfl hSa (Ld rfl fl24 (fun w h => h.1)) rfl ?_) | (refine AO_p rfl hSa (Ld rfl fl24 (fun w h => h.2)) rfl ?_)
                  refine AO_p rfl hSa (Pu.toIf (Pu_mv rfl)) rfl ?_
                  refine AO_L rfl rfl (Lo_bs H19 rfl rfl Try.underlying24 ze21 (fun bt w20 H20 => ?_))
                  have hSb := And.intro (H20.cell (j := 10) rfl (i := 5) (by decide)) (H20.cell (j := 14) rfl hrk)
                  refine ⟨hSb, ?_⟩
                  refine AO_L rfl rfl (Lo_append (j := 1) (q := ((rdsF h x s.p).getD k 0)) H20 rfl hrk rfl rfl Try.underlying24 ze21 (by decide) (fun _ _ => rfl) (by omega) (by omega) (fun r' w21 hl21 hc21 H21 => ?_))
                  have hSc := And.intro (H21.cell (j := 9) rfl (i := 5) (by decide)) (H21.cell (j := 13) rfl hrk)
                  refine ⟨hSc, ?_⟩
                  refine AO_p rfl hSc (Pu.toIf (Pu_ix rfl rfl sl41 rfl hrk)) rfl ?_
                  refine AO_S0 rfl (Lo_st (j := 13) (i := ((rdsF h x s.p).getD k 0)) H21 rfl rfl rfl fl24 rfl hrk (fun w22 H22 => ?_))
                  refine AO_nil ?_
                  refine CE_reg ?_
                  refine EL_p (Pu_add rfl rfl (w64 (by omega))) rfl ?_
                  refine EL_p (Pu_mv rfl) rfl ?_
                  refine EL_nil ?_
                  have H23 := H22.congr (j := 13) rfl (fun k _ => hdr_upd _ _ _ _)
                  exact ⟨k + 1, by omega, ⟨rfl, rfl, rfl, rfl, rfl, rfl, rfl, rfl, rfl, rfl, rfl, rfl, rfl, rfl, rfl, trivial⟩, hkl, updR Rq ((rdsF h x s.p).getD k 0) r', red_yes hRq hkl (fun hh => c286 (congrArg Int.ofNat hh)) ((hRq _ hrk).app hl21 hc21 rfl), H23⟩
                · refine CE_skip ?_
                  refine CE_reg ?_
                  refine EL_p (Pu_add rfl rfl (w64 (by omega))) rfl ?_
                  refine EL_p (Pu_mv rfl) rfl ?_
                  refine EL_nil ?_
                  exact ⟨k + 1, by omega, ⟨rfl, rfl, rfl, rfl, rfl, rfl, rfl, rfl, rfl, rfl, rfl, rfl, rfl, rfl, rfl, trivial⟩, hkl, Rq, red_no hRq hkl (Int.ofNat.inj c286), H18⟩
              · have hRq2 : ∀ u, u < h.nt → RepI (Rq u) ((outF h u s.p ++ wedge h s.p u) ++ redges (h.T s.p) u (rdsF h x s.p)) := fun u hu => by
                  have h1 := hRq u hu
                  rwa [List.take_of_length_le (by omega)] at h1
                have hacc := hi.acc x hxm
                have haccl := hacc.len
                have haccl2 := accF_length h x s.p
                have hwrs := hi.wrs x hxm
                have hwl := hwrs.len
                have hwl2 := wrsF_length h x s.p
                refine CE_exit ?_
                refine CE_seq ?_
                refine CE_drawH H18 (fun w => w.cell? ⟨ib, x * 2 + 1, none⟩ = some (s.g.Rr x).val) [(0, 0), (1, 0), (2, 0), (3, 0), (4, 0), (5, 0), (6, 0), (7, 0), (8, 0), (9, 0), (10, 1), (11, 0), (12, 0), (13, 2)] mixed rfl (by kernel_rfl) (fun w19 H19 => ?_)
                have hSa := (H19.cell (j := 7) rfl (i := x * 2 + 1) (by omega)).trans (congrArg some (itF_1 s.g.wr s.g.Rr x))
                refine AO_p rfl hSa (Pu.toIf (Pu_mv rfl)) rfl ?_
                refine AO_p rfl hSa (Pu.toIf (Pu_mv rfl)) rfl ?_
                refine AO_p rfl hSa (Pu.toIf (Pu_mv rfl)) rfl ?_
                refine AO_p rfl hSa (Pu.toIf (Pu_mv rfl)) rfl ?_
                refine AO_p rfl hSa (Pu.toIf (Pu_nil rfl)) rfl ?_
                refine AO_p rfl hSa (Pu.toIf (Pu_fld rfl fi83_1)) rfl ?_
                refine AO_p rfl hSa (Ld rfl fl24 (fun w h => h)) rfl ?_
                refine AO_p rfl hSa (Pu.toIf (Pu_res (h := 0) rfl rfl sl24 rfl (Nat.zero_le _))) rfl ?_
                refine AO_p rfl hSa (Pu.toIf (Pu_nil rfl)) rfl ?_
                refine AO_p rfl hSa (Pu.toIf (Pu_fld rfl fi83_0)) rfl ?_
                refine AO_L0 rfl (Lo_st (j := 7) (i := x * 2) H19 rfl rfl rfl fl21 rfl (by omega) (fun w20 H20 => ?_))
                have hSb := (H20.cell (j := 7) rfl (i := x * 2 + 1) (by omega)).trans (congrArg some (show setF (itF s.g.wr s.g.Rr) (x * 2) (.int .i32 (h.T s.p)) (x * 2 + 1) = (s.g.Rr x).val by rw [itF_wr, itF_1]))
                refine ⟨hSb, ?_⟩
                refine AO_p rfl hSb (Pu.toIf (Pu_nil rfl)) rfl ?_
                refine AO_p rfl hSb (Pu.toIf (Pu_fld rfl fi83_1)) rfl ?_
                refine AO_S0 rfl (Lo_st (j := 7) (i := x * 2 + 1) H20 rfl rfl rfl fl24 rfl (by omega) (fun w21 H21 => ?_))
                refine AO_nil ?_
                have H22 := H21.rcut (j := 5) rfl hxm (h := 0) (Nat.zero_le _)
                have H23 : HP W0 w21 (Blk vb 3 (cellsF [.int .u8 (h.A s.p), .int .i64 0, .string ByteArray.empty]) :: Fam h.nt 1 21 (Rq) :: Fam h.nt 8 68 (updR s.g.Rt (h.T s.p) (rt)) :: Fam h.m 1 21 (s.g.Rw) :: Fam h.m 1 21 (s.g.Ra) :: Fam h.m 1 21 (updR s.g.Rr x ⟨(s.g.Rr x).blk, 0, (s.g.Rr x).cap, (s.g.Rr x).c⟩) :: MapK mb (f') :: Blk ib (h.m * 2) (itF (updI s.g.wr x (h.T s.p)) (updR s.g.Rr x ⟨(s.g.Rr x).blk, 0, (s.g.Rr x).cap, (s.g.Rr x).c⟩)) :: Fam 1 1 21 Rl :: Blk gb 6 (cellsF (gcl h (Rl 0).val ab wb tb ub)) :: Blk ab h.m (hdr (s.g.Ra)) :: Blk wb h.m (hdr (s.g.Rw)) :: Blk tb h.nt (hdr (updR s.g.Rt (h.T s.p) rt)) :: Blk ub h.nt (hdr (Rq)) :: L) := H22.congr (j := 7) rfl (fun q hq => by
                  have e1 : setF (itF s.g.wr s.g.Rr) (x * 2) (.int .i32 (h.T s.p)) = itF (updI s.g.wr x (h.T s.p)) s.g.Rr := funext (itF_wr s.g.wr s.g.Rr x (h.T s.p))
                  rw [e1]
                  exact itF_rd _ _ x ⟨(s.g.Rr x).blk, 0, (s.g.Rr x).cap, (s.g.Rr x).c⟩ q)
                refine CE_midI ([(0, .pointer (some ⟨h.hb, 0, none⟩)), (3, .pointer (some ⟨gb, 0, none⟩)), (5, .slice (some ⟨ib, 0, none⟩) h.m h.m), (7, .map (some mb)), (92, .slice (some ⟨h.ob, 0, none⟩) h.n h.n), (93, .int .i64 h.n), (94, .int .i64 s.p), (9, .pointer (some ⟨vb, 0, none⟩)), (10, .int .i32 x), (11, .int .i32 (h.T s.p)), (15, .pointer (some ⟨rb, (findT x (tchF h (h.T s.p) s.p)) * 8, none⟩)), (16, .pointer (some ⟨ib, x * 2, none⟩))]) (fun w' => ∃ r1 : Row, r1.val = rt.val ∧ r1.blk = some rb ∧ RepT r1 (setT (wrT1 (accF h x s.p).length) (findT x (tchF h (h.T s.p) s.p)) (addT x (tchF h (h.T s.p) s.p))) ∧ HP W0 w' (Blk vb 3 (cellsF [.int .u8 (h.A s.p), .int .i64 0, .string ByteArray.empty]) :: Fam h.nt 1 21 (Rq) :: Fam h.nt 8 68 (updR s.g.Rt (h.T s.p) (r1)) :: Fam h.m 1 21 (s.g.Rw) :: Fam h.m 1 21 (s.g.Ra) :: Fam h.m 1 21 (updR s.g.Rr x ⟨(s.g.Rr x).blk, 0, (s.g.Rr x).cap, (s.g.Rr x).c⟩) :: MapK mb (f') :: Blk ib (h.m * 2) (itF (updI s.g.wr x (h.T s.p)) (updR s.g.Rr x ⟨(s.g.Rr x).blk, 0, (s.g.Rr x).cap, (s.g.Rr x).c⟩)) :: Fam 1 1 21 Rl :: Blk gb 6 (cellsF (gcl h (Rl 0).val ab wb tb ub)) :: Blk ab h.m (hdr (s.g.Ra)) :: Blk wb h.m (hdr (s.g.Rw)) :: Blk tb h.nt (hdr (updR s.g.Rt (h.T s.p) rt)) :: Blk ub h.nt (hdr (Rq)) :: L)) ?_ (fun w22 hmid => ?_)
                · refine CE_seq ?_
                  refine CE_reg ?_
                  refine EL_p (Pu_mv rfl) rfl ?_
                  refine EL_p (Pu_nil rfl) rfl ?_
                  refine EL_p (Pu_fld rfl fi68_1) rfl ?_
                  refine EL_ld rfl fl21 ((H23.ucell (j := 2) rfl hT hrb (i := (findT x (tchF h (h.T s.p) s.p)) * 8 + 1) (by omega)).trans (congrArg some (hrt.gsa hlt0))) rfl ?_
                  refine EL_p (Pu_lss rfl rfl) rfl ?_
                  refine EL_nil ?_
                  refine CE_cP rfl (fun c320 => ?_) (fun c320 => ?_)
                  · refine CE_reg ?_
                    refine EL_p (Pu_mv rfl) rfl ?_
                    refine EL_p (Pu_mv rfl) rfl ?_
                    refine EL_p (Pu_nil rfl) rfl ?_
                    refine EL_p (Pu_fld rfl fi65_2) rfl ?_
                    first | (refine EL_ld rfl fl41 (H23.cell (j := 9) rfl (by decide)) rfl ?_) | (refine EL_ld rfl fl41 (H23.cell (j := 10) rfl hxm) rfl ?_)
                    refine EL_p (Pu_mv rfl) rfl ?_
                    refine EL_p (Pu_ix rfl rfl sl41 rfl hxm) rfl ?_
                    first | (refine EL_ld rfl fl24 (H23.cell (j := 9) rfl (by decide)) rfl ?_) | (refine EL_ld rfl fl24 (H23.cell (j := 10) rfl hxm) rfl ?_)
                    refine EL_p (Pu_len rfl sl24 rfl) rfl ?_
                    refine EL_p (Pu_cnv rfl in3 in21 (w32 (by omega))) rfl ?_
                    refine EL_p (Pu_add rfl rfl (w32 (by omega))) rfl ?_
                    refine EL_p (Pu_nil rfl) rfl ?_
                    refine EL_p (Pu_fld rfl fi68_1) rfl ?_
                    refine EL_L0 (Lo_ust (j := 2) (i := (findT x (tchF h (h.T s.p) s.p)) * 8 + 1) H23 rfl hT hrb rfl rfl fl21 rfl (by omega) (fun w24 H24 => ?_))
                    refine EL_nil ?_
                    refine ⟨⟨⟨rt.blk, rt.len, rt.cap, setF rt.c ((findT x (tchF h (h.T s.p) s.p)) * 8 + 1) (.int .i32 ((s.g.Ra x).len + 1))⟩, rfl, hrb, ?_, H24⟩, rfl, rfl, rfl, rfl, rfl, rfl, rfl, rfl, rfl, rfl, rfl, rfl, trivial⟩
                    have h1 := hrt.sa hlt0 ((s.g.Ra x).len + 1 : Int)
                    rw [setT_congr (fun c : Tch => { c with sa := ((s.g.Ra x).len + 1 : Int) }) (wrT1 (accF h x s.p).length) (newT 0)] at h1
                    · exact h1
                    · unfold wrT1; rw [if_pos c320, haccl]
                  · refine CE_skip ?_
                    refine ⟨⟨rt, rfl, hrb, ?_, H23⟩, rfl, rfl, rfl, rfl, rfl, rfl, rfl, rfl, rfl, rfl, rfl, rfl, trivial⟩
                    rw [setT_id (wrT1 (accF h x s.p).length) (newT 0)]
                    · exact hrt
                    · unfold wrT1; rw [if_neg c320]
                obtain ⟨r1, hv1, hb1, hr1, H24⟩ := hmid
                have hl1 := hr1.len
                rw [setT_length] at hl1
                have hlt1 : (findT x (tchF h (h.T s.p) s.p)) < (setT (wrT1 (accF h x s.p).length) (findT x (tchF h (h.T s.p) s.p)) (addT x (tchF h (h.T s.p) s.p))).length := by rw [setT_length]; exact hlt0
                refine CE_seq ?_
                refine CE_reg ?_
                refine EL_p (Pu_mv rfl) rfl ?_
                refine EL_p (Pu_mv rfl) rfl ?_
                refine EL_p (Pu_nil rfl) rfl ?_
                refine EL_p (Pu_fld rfl fi65_2) rfl ?_
                first | (refine EL_ld rfl fl41 (H24.cell (j := 9) rfl (by decide)) rfl ?_) | (refine EL_ld rfl fl41 (H24.cell (j := 10) rfl hxm) rfl ?_)
                refine EL_p (Pu_mv rfl) rfl ?_
                refine EL_p (Pu_ix rfl rfl sl41 rfl hxm) rfl ?_
                first | (refine EL_ld rfl fl24 (H24.cell (j := 9) rfl (by decide)) rfl ?_) | (refine EL_ld rfl fl24 (H24.cell (j := 10) rfl hxm) rfl ?_)
                refine EL_p (Pu_len rfl sl24 rfl) rfl ?_
                refine EL_p (Pu_cnv rfl in3 in21 (w32 (by omega))) rfl ?_
                refine EL_p (Pu_nil rfl) rfl ?_
                refine EL_p (Pu_fld rfl fi68_3) rfl ?_
                refine EL_L0 (Lo_ust (j := 2) (i := (findT x (tchF h (h.T s.p) s.p)) * 8 + 3) H24 rfl hT hb1 rfl rfl fl21 rfl (by omega) (fun w25 H25 => ?_))
                have hr3 : RepT ⟨r1.blk, r1.len, r1.cap, setF r1.c ((findT x (tchF h (h.T s.p) s.p)) * 8 + 3) (.int .i32 (s.g.Ra x).len)⟩ (setT (wrT (accF h x s.p).length) (findT x (tchF h (h.T s.p) s.p)) (addT x (tchF h (h.T s.p) s.p))) := by
                  have h1 := hr1.pa hlt1 ((s.g.Ra x).len : Int)
                  rw [setT_setT] at h1
                  rw [← haccl] at h1 ⊢
                  exact h1
                refine EL_nil ?_
                refine CE_drawH H25 (fun w => w.cell? ⟨gb, 3, none⟩ = some (.slice (some ⟨wb, 0, none⟩) h.m h.m) ∧ w.cell? ⟨wb, x, none⟩ = some (s.g.Rw x).val) [(0, 0), (1, 0), (2, 0), (3, 0), (4, 0), (5, 0), (6, 0), (7, 0), (8, 0), (9, 0), (10, 0), (11, 0), (12, 0), (13, 1), (14, 1), (15, 0), (16, 2)] mixed rfl (by kernel_rfl) (fun w26 H26 => ?_)
                have hSa := And.intro (H26.cell (j := 9) rfl (i := 3) (by decide)) (H26.cell (j := 11) rfl hxm)
                refine AO_p rfl hSa (Pu.toIf (Pu_mv rfl)) rfl ?_
                refine AO_p rfl hSa (Pu.toIf (Pu_nil rfl)) rfl ?_
                refine AO_p rfl hSa (Pu.toIf (Pu_fld rfl fi65_3)) rfl ?_
                first | (refine AO_p rfl hSa (Ld rfl fl41 (fun w h => h.1)) rfl ?_) | (refine AO_p rfl hSa (Ld rfl fl41 (fun w h => h.2)) rfl ?_)
                refine AO_p rfl hSa (Pu.toIf (Pu_mv rfl)) rfl ?_
                refine AO_p rfl hSa (Pu.toIf (Pu_mv rfl)) rfl ?_
                refine AO_p rfl hSa (Pu.toIf (Pu_nil rfl)) rfl ?_
                refine AO_p rfl hSa (Pu.toIf (Pu_fld rfl fi65_3)) rfl ?_
                first | (refine AO_p rfl hSa (Ld rfl fl41 (fun w h => h.1)) rfl ?_) | (refine AO_p rfl hSa (Ld rfl fl41 (fun w h => h.2)) rfl ?_)
                refine AO_p rfl hSa (Pu.toIf (Pu_mv rfl)) rfl ?_
                refine AO_p rfl hSa (Pu.toIf (Pu_ix rfl rfl sl41 rfl hxm)) rfl ?_
                first | (refine AO_p rfl hSa (Ld rfl fl24 (fun w h => h.1)) rfl ?_) | (refine AO_p rfl hSa (Ld rfl fl24 (fun w h => h.2)) rfl ?_)
                refine AO_p rfl hSa (Pu.toIf (Pu_mv rfl)) rfl ?_
                refine AO_L rfl rfl (Lo_bs H26 rfl rfl Try.underlying24 ze21 (fun bt w27 H27 => ?_))
                have hSb := And.intro (H27.cell (j := 10) rfl (i := 3) (by decide)) (H27.cell (j := 12) rfl hxm)
                refine ⟨hSb, ?_⟩
                refine AO_L rfl rfl (Lo_append (j := 3) (q := x) H27 rfl hxm rfl rfl Try.underlying24 ze21 (by decide) (fun _ _ => rfl) (by omega) (by omega) (fun r' w28 hl28 hc28 H28 => ?_))
                have hSc := And.intro (H28.cell (j := 9) rfl (i := 3) (by decide)) (H28.cell (j := 11) rfl hxm)
                refine ⟨hSc, ?_⟩
                refine AO_p rfl hSc (Pu.toIf (Pu_ix rfl rfl sl41 rfl hxm)) rfl ?_
                refine AO_S0 rfl (Lo_st (j := 11) (i := x) H28 rfl rfl rfl fl24 rfl hxm (fun w29 H29 => ?_))
                refine AO_nil ?_
                have H30 := (H29.congr (j := 11) rfl (fun k _ => hdr_upd s.g.Rw x r' k)).congr (j := 12) rfl (fun k _ => hdr_same s.g.Rt (h.T s.p) (r := rt) (r' := ⟨r1.blk, r1.len, r1.cap, setF r1.c ((findT x (tchF h (h.T s.p) s.p)) * 8 + 3) (.int .i32 (s.g.Ra x).len)⟩) hv1 k)
                exact ⟨⟨s.g.Ra, updR s.g.Rw x r', updR s.g.Rt (h.T s.p) ⟨r1.blk, r1.len, r1.cap, setF r1.c ((findT x (tchF h (h.T s.p) s.p)) * 8 + 3) (.int .i32 (s.g.Ra x).len)⟩, Rq, updR s.g.Rr x ⟨(s.g.Rr x).blk, 0, (s.g.Rr x).cap, (s.g.Rr x).c⟩, updI s.g.wr x (h.T s.p), f'⟩, ⟨hi.write hl hx hxm hom hA rfl hr3 hRq2 RepI.cut0 (hwrs.app hl28 hc28 rfl) hf', H30⟩, rfl, rfl, rfl, rfl, rfl, rfl, rfl, rfl, rfl, rfl, trivial⟩
            · exfalso; clear hrng; omega --stop
        obtain ⟨hi', H18⟩ := hmid
        have hacc := hi'.acc x hxm
        have haccl := hacc.len
        have hal2 := accF_length h x s.p
        refine CE_drawH H18 (fun w => w.cell? ⟨gb, 2, none⟩ = some (.slice (some ⟨ab, 0, none⟩) h.m h.m) ∧ w.cell? ⟨ab, x, none⟩ = some (g'.Ra x).val) [(0, 0), (1, 0), (2, 0), (3, 0), (4, 0), (5, 0), (6, 0), (7, 0), (8, 0), (9, 0), (10, 0), (11, 0), (12, 0), (13, 1), (14, 1), (15, 0), (16, 2)] mixed rfl (by kernel_rfl) (fun w19 H19 => ?_)
        have hSa := And.intro (H19.cell (j := 9) rfl (i := 2) (by decide)) (H19.cell (j := 10) rfl hxm)
        refine AO_p rfl hSa (Pu.toIf (Pu_mv rfl)) rfl ?_
        refine AO_p rfl hSa (Pu.toIf (Pu_nil rfl)) rfl ?_
        refine AO_p rfl hSa (Pu.toIf (Pu_fld rfl fi65_2)) rfl ?_
        first | (refine AO_p rfl hSa (Ld rfl fl41 (fun w h => h.1)) rfl ?_) | (refine AO_p rfl hSa (Ld rfl fl41 (fun w h => h.2)) rfl ?_)
        refine AO_p rfl hSa (Pu.toIf (Pu_mv rfl)) rfl ?_
        refine AO_p rfl hSa (Pu.toIf (Pu_mv rfl)) rfl ?_
        refine AO_p rfl hSa (Pu.toIf (Pu_nil rfl)) rfl ?_
        refine AO_p rfl hSa (Pu.toIf (Pu_fld rfl fi65_2)) rfl ?_
        first | (refine AO_p rfl hSa (Ld rfl fl41 (fun w h => h.1)) rfl ?_) | (refine AO_p rfl hSa (Ld rfl fl41 (fun w h => h.2)) rfl ?_)
        refine AO_p rfl hSa (Pu.toIf (Pu_mv rfl)) rfl ?_
        refine AO_p rfl hSa (Pu.toIf (Pu_ix rfl rfl sl41 rfl hxm)) rfl ?_
        first | (refine AO_p rfl hSa (Ld rfl fl24 (fun w h => h.1)) rfl ?_) | (refine AO_p rfl hSa (Ld rfl fl24 (fun w h => h.2)) rfl ?_)
        refine AO_p rfl hSa (Pu.toIf (Pu_mv rfl)) rfl ?_
        refine AO_L rfl rfl (Lo_bs H19 rfl rfl Try.underlying24 ze21 (fun bt w20 H20 => ?_))
        have hSb := And.intro (H20.cell (j := 10) rfl (i := 2) (by decide)) (H20.cell (j := 11) rfl hxm)
        refine ⟨hSb, ?_⟩
        refine AO_L rfl rfl (Lo_append (j := 4) (q := x) H20 rfl hxm rfl rfl Try.underlying24 ze21 (by decide) (fun _ _ => rfl) (by omega) (by omega) (fun r' w21 hl21 hc21 H21 => ?_))
        have hSc := And.intro (H21.cell (j := 9) rfl (i := 2) (by decide)) (H21.cell (j := 10) rfl hxm)
        refine ⟨hSc, ?_⟩
        refine AO_p rfl hSc (Pu.toIf (Pu_ix rfl rfl sl41 rfl hxm)) rfl ?_
        refine AO_S0 rfl (Lo_st (j := 10) (i := x) H21 rfl rfl rfl fl24 rfl hxm (fun w22 H22 => ?_))
        refine AO_nil ?_
        refine CE_reg ?_
        refine EL_p (Pu_add rfl rfl (w64 (by omega))) rfl ?_
        refine EL_p (Pu_mv rfl) rfl ?_
        refine EL_nil ?_
        have H23 := H22.congr (j := 10) rfl (fun k _ => hdr_upd _ _ _ _)
        exact ⟨⟨s.p + 1, ⟨updR g'.Ra x r', g'.Rw, g'.Rt, g'.Ro, g'.Rr, g'.wr, g'.f⟩⟩, by dsimp only; omega, ⟨rfl, rfl, rfl, rfl, rfl, rfl, rfl, trivial⟩, hlt, hi'.access hl hx (hacc.app hl21 hc21 rfl), H23.tail⟩
      · have hpn : s.p = h.n := by omega
        rw [hpn] at hi
        refine CE_exit ?_
        refine CE_seq ?_
        refine CE_seq ?_
        refine CE_reg ?_
        refine EL_p (Pu_mv rfl) rfl ?_
        refine EL_p (Pu_nil rfl) rfl ?_
        refine EL_p (Pu_fld rfl fi65_4) rfl ?_
        refine EL_ld rfl fl63 (H10.cell (j := 8) rfl (by decide)) rfl ?_
        refine EL_p (Pu_len rfl sl63 rfl) rfl ?_
        refine EL_p (Pu_mv rfl) rfl ?_
        refine EL_nil ?_
        refine CE_block ?_
        refine CE_loop (fun (k : Nat) w' => k ≤ h.nt ∧ ∃ Rq : Nat → Row, (∀ t, t < h.nt → (Rq t).val = (s.g.Rt t).val ∧ RepT (Rq t) (if t < k then (tchF h t h.n).map (finT h) else tchF h t h.n)) ∧ HP W0 w' (Fam h.nt 1 21 (s.g.Ro) :: Fam h.nt 8 68 (Rq) :: Fam h.m 1 21 (s.g.Rw) :: Fam h.m 1 21 (s.g.Ra) :: Fam h.m 1 21 (s.g.Rr) :: MapK mb (s.g.f) :: Blk ib (h.m * 2) (itF (s.g.wr) (s.g.Rr)) :: Fam 1 1 21 Rl :: Blk gb 6 (cellsF (gcl h (Rl 0).val ab wb tb ub)) :: Blk ab h.m (hdr (s.g.Ra)) :: Blk wb h.m (hdr (s.g.Rw)) :: Blk tb h.nt (hdr (s.g.Rt)) :: Blk ub h.nt (hdr (s.g.Ro)) :: L)) (fun k => [(3, .pointer (some ⟨gb, 0, none⟩)), (382, .slice (some ⟨tb, 0, none⟩) h.nt h.nt), (383, .int .i64 h.nt), (384, .int .i64 k)]) (fun k => h.nt - k) 0 ⟨Nat.zero_le _, s.g.Rt, fun t ht => ⟨rfl, (by rw [if_neg (Nat.not_lt_zero t)]; exact hi.tch t ht)⟩, H10⟩ ⟨rfl, rfl, rfl, rfl, trivial⟩ ?_
        rintro k w11 ⟨hk, Rq, hRq, H11⟩
        refine CE_seq ?_
        refine CE_reg ?_
        refine EL_p (Pu_lss rfl rfl) rfl ?_
        refine EL_nil ?_
        refine CE_seq ?_
        refine CE_cP rfl (fun c385 => ?_) (fun c385 => ?_)
        · have hlt : k < h.nt := by omega
          obtain ⟨hv0, hr0⟩ := hRq k hlt
          rw [if_neg (Nat.lt_irrefl k)] at hr0
          have htl := (hi.tch k hlt).len
          have htl2 := tchF_length h k h.n
          refine CE_skip ?_
          refine CE_seq ?_
          refine CE_block ?_
          refine CE_seq ?_
          refine CE_reg ?_
          refine EL_p (Pu_ix rfl rfl sl63 rfl hlt) rfl ?_
          refine EL_ld rfl fl66 (H11.cell (j := 11) rfl hlt) rfl ?_
          refine EL_p (Pu_as rfl) rfl ?_
          refine EL_nil ?_
          refine CE_seq ?_
          refine CE_reg ?_
          refine EL_p (Pu_mv rfl) rfl ?_
          refine EL_p (Pu_len rfl sl66 rfl) rfl ?_
          refine EL_p (Pu_mv rfl) rfl ?_
          refine EL_nil ?_
          refine CE_block ?_
          refine CE_loop (fun (i : Nat) w' => i ≤ (tchF h k h.n).length ∧ ∃ r : Row, r.val = (s.g.Rt k).val ∧ RepT r (fixF h i (tchF h k h.n)) ∧ HP W0 w' (Fam h.nt 1 21 (s.g.Ro) :: Fam h.nt 8 68 (updR Rq k r) :: Fam h.m 1 21 (s.g.Rw) :: Fam h.m 1 21 (s.g.Ra) :: Fam h.m 1 21 (s.g.Rr) :: MapK mb (s.g.f) :: Blk ib (h.m * 2) (itF (s.g.wr) (s.g.Rr)) :: Fam 1 1 21 Rl :: Blk gb 6 (cellsF (gcl h (Rl 0).val ab wb tb ub)) :: Blk ab h.m (hdr (s.g.Ra)) :: Blk wb h.m (hdr (s.g.Rw)) :: Blk tb h.nt (hdr (s.g.Rt)) :: Blk ub h.nt (hdr (s.g.Ro)) :: L)) (fun i => [(3, .pointer (some ⟨gb, 0, none⟩)), (382, .slice (some ⟨tb, 0, none⟩) h.nt h.nt), (383, .int .i64 h.nt), (384, .int .i64 k), (20, hdr s.g.Rt k), (389, .int .i64 (s.g.Rt k).len), (390, .int .i64 i)]) (fun i => (tchF h k h.n).length - i) 0 ⟨Nat.zero_le _, Rq k, hv0, hr0, (by rw [updR_eta]; exact H11)⟩ ⟨rfl, rfl, rfl, rfl, rfl, rfl, rfl, trivial⟩ ?_
          rintro i w12 ⟨hile, r, hv, hr, H12⟩
          have hfl : (fixF h i (tchF h k h.n)).length = (tchF h k h.n).length := fixF_length h i _
          have hrl := hr.len
          refine CE_seq ?_
          refine CE_reg ?_
          refine EL_p (Pu_lss rfl rfl) rfl ?_
          refine EL_nil ?_
          refine CE_seq ?_
          refine CE_cP rfl (fun c391 => ?_) (fun c391 => ?_)
          · have hil : i < (tchF h k h.n).length := by omega
            have hil' : i < (fixF h i (tchF h k h.n)).length := by omega
            obtain ⟨rb, hrb, hrv⟩ := H12.ublk (j := 1) rfl hlt (by omega)
            have hsv : hdr s.g.Rt k = .slice (some ⟨rb, 0, none⟩) r.len r.cap := hv.symm.trans hrv
            have hitem := tchF_item ho k h.n (Nat.le_refl _) i hil
            rw [← fixF_at h (newT 0) i] at hitem
            have hacc := hi.acc _ hitem
            have haccl := hacc.len
            have haccl2 := accF_length h ((fixF h i (tchF h k h.n)).getD i (newT 0)).item h.n
            have hwrs := hi.wrs _ hitem
            have hwl := hwrs.len
            have hwl2 := wrsF_length h ((fixF h i (tchF h k h.n)).getD i (newT 0)).item h.n
            refine CE_skip ?_
            refine CE_seq ?_
            refine CE_block ?_
            refine CE_seq ?_
            refine CE_reg ?_
            refine EL_p (Pu_mv rfl) rfl ?_
            refine EL_p (Pu_as rfl) rfl ?_
            refine EL_nil ?_
            refine CE_seq ?_
            refine CE_reg ?_
            refine EL_p (Pu_mv rfl) rfl ?_
            refine EL_p (Pu_mv rfl) rfl ?_
            refine EL_p (Pu_ixm (congrArg some hsv) rfl sl66 rfl (by omega)) rfl ?_
            refine EL_p (Pu_as rfl) rfl ?_
            refine EL_nil ?_
            refine CE_midI ([(3, .pointer (some ⟨gb, 0, none⟩)), (382, .slice (some ⟨tb, 0, none⟩) h.nt h.nt), (383, .int .i64 h.nt), (384, .int .i64 k), (20, hdr s.g.Rt k), (389, .int .i64 (s.g.Rt k).len), (390, .int .i64 i), (22, .pointer (some ⟨rb, i * 8, none⟩))]) (fun w' => ∃ r1 : Row, r1.val = (s.g.Rt k).val ∧ r1.blk = some rb ∧ RepT r1 (setT (saF h) i (fixF h i (tchF h k h.n))) ∧ HP W0 w' (Fam h.nt 1 21 (s.g.Ro) :: Fam h.nt 8 68 (updR Rq k r1) :: Fam h.m 1 21 (s.g.Rw) :: Fam h.m 1 21 (s.g.Ra) :: Fam h.m 1 21 (s.g.Rr) :: MapK mb (s.g.f) :: Blk ib (h.m * 2) (itF (s.g.wr) (s.g.Rr)) :: Fam 1 1 21 Rl :: Blk gb 6 (cellsF (gcl h (Rl 0).val ab wb tb ub)) :: Blk ab h.m (hdr (s.g.Ra)) :: Blk wb h.m (hdr (s.g.Rw)) :: Blk tb h.nt (hdr (s.g.Rt)) :: Blk ub h.nt (hdr (s.g.Ro)) :: L)) ?_ (fun w13 hmid => ?_)
            · refine CE_seq ?_
              refine CE_reg ?_
              refine EL_p (Pu_mv rfl) rfl ?_
              refine EL_p (Pu_nil rfl) rfl ?_
              refine EL_p (Pu_fld rfl fi68_1) rfl ?_
              refine EL_ld rfl fl21 ((H12.ucell (j := 1) rfl hlt hrb (i := i * 8 + 1) (by omega)).trans (congrArg some (hr.gsa hil'))) rfl ?_
              refine EL_p (Pu_lss rfl rfl) rfl ?_
              refine EL_nil ?_
              refine CE_cP rfl (fun c400 => ?_) (fun c400 => ?_)
              · refine CE_drawH H12 (fun w => HP W0 w (Fam h.nt 1 21 (s.g.Ro) :: Fam h.nt 8 68 (updR Rq k r) :: Fam h.m 1 21 (s.g.Rw) :: Fam h.m 1 21 (s.g.Ra) :: Fam h.m 1 21 (s.g.Rr) :: MapK mb (s.g.f) :: Blk ib (h.m * 2) (itF (s.g.wr) (s.g.Rr)) :: Fam 1 1 21 Rl :: Blk gb 6 (cellsF (gcl h (Rl 0).val ab wb tb ub)) :: Blk ab h.m (hdr (s.g.Ra)) :: Blk wb h.m (hdr (s.g.Rw)) :: Blk tb h.nt (hdr (s.g.Rt)) :: Blk ub h.nt (hdr (s.g.Ro)) :: L)) [(0, 0), (1, 0), (2, 0), (3, 0), (4, 0), (5, 0), (6, 0), (7, 0), (8, 0), (9, 0), (10, 0), (11, 0), (12, 0), (13, 0), (14, 0), (15, 2)] mixed rfl (by kernel_rfl) (fun w13 H13 => ?_)
                refine AO_p rfl H13 (Pu.toIf (Pu_mv rfl)) rfl ?_
                refine AO_p rfl H13 (Pu.toIf (Pu_mv rfl)) rfl ?_
                refine AO_p rfl H13 (Pu.toIf (Pu_nil rfl)) rfl ?_
                refine AO_p rfl H13 (Pu.toIf (Pu_fld rfl fi65_2)) rfl ?_
                first | (refine AO_p rfl H13 (Ld rfl fl41 (fun w h => h.cell (j := 8) rfl (by decide))) rfl ?_) | (refine AO_p rfl H13 (Ld rfl fl41 (fun w h => (h.ucell (j := 1) rfl hlt hrb (i := i * 8) (by omega)).trans (congrArg some (hr.gitem hil')))) rfl ?_) | (refine AO_p rfl H13 (Ld rfl fl41 (fun w h => h.cell (j := 9) rfl hitem)) rfl ?_)
                refine AO_p rfl H13 (Pu.toIf (Pu_mv rfl)) rfl ?_
                refine AO_p rfl H13 (Pu.toIf (Pu_nil rfl)) rfl ?_
                refine AO_p rfl H13 (Pu.toIf (Pu_fld rfl fi68_0)) rfl ?_
                first | (refine AO_p rfl H13 (Ld rfl fl21 (fun w h => h.cell (j := 8) rfl (by decide))) rfl ?_) | (refine AO_p rfl H13 (Ld rfl fl21 (fun w h => (h.ucell (j := 1) rfl hlt hrb (i := i * 8) (by omega)).trans (congrArg some (hr.gitem hil')))) rfl ?_) | (refine AO_p rfl H13 (Ld rfl fl21 (fun w h => h.cell (j := 9) rfl hitem)) rfl ?_)
                refine AO_p rfl H13 (Pu.toIf (Pu_ix (j := ((fixF h i (tchF h k h.n)).getD i (newT 0)).item) rfl rfl sl41 rfl hitem)) rfl ?_
                first | (refine AO_p rfl H13 (Ld rfl fl24 (fun w h => h.cell (j := 8) rfl (by decide))) rfl ?_) | (refine AO_p rfl H13 (Ld rfl fl24 (fun w h => (h.ucell (j := 1) rfl hlt hrb (i := i * 8) (by omega)).trans (congrArg some (hr.gitem hil')))) rfl ?_) | (refine AO_p rfl H13 (Ld rfl fl24 (fun w h => h.cell (j := 9) rfl hitem)) rfl ?_)
                refine AO_p rfl H13 (Pu.toIf (Pu_len rfl sl24 rfl)) rfl ?_
                refine AO_p rfl H13 (Pu.toIf (Pu_cnv rfl in3 in21 (w32 (by omega)))) rfl ?_
                refine AO_p rfl H13 (Pu.toIf (Pu_nil rfl)) rfl ?_
                refine AO_p rfl H13 (Pu.toIf (Pu_fld rfl fi68_1)) rfl ?_
                refine AO_S0 rfl (Lo_ust (j := 1) (i := i * 8 + 1) H13 rfl hlt hrb rfl rfl fl21 rfl (by omega) (fun w14 H14 => ?_))
                refine AO_nil ?_
                refine ⟨⟨⟨r.blk, r.len, r.cap, setF r.c (i * 8 + 1) (.int .i32 (s.g.Ra ((fixF h i (tchF h k h.n)).getD i (newT 0)).item).len)⟩, hv, hrb, ?_, H14⟩, rfl, rfl, rfl, rfl, rfl, rfl, rfl, rfl, trivial⟩
                have h1 := hr.sa hil' ((s.g.Ra ((fixF h i (tchF h k h.n)).getD i (newT 0)).item).len : Int)
                rw [setT_congr (fun c : Tch => { c with sa := ((s.g.Ra ((fixF h i (tchF h k h.n)).getD i (newT 0)).item).len : Int) }) (saF h) (newT 0)] at h1
                · exact h1
                · unfold saF; rw [if_pos c400, haccl]
              · refine CE_skip ?_
                refine ⟨⟨r, hv, hrb, ?_, H12⟩, rfl, rfl, rfl, rfl, rfl, rfl, rfl, rfl, trivial⟩
                rw [setT_id (saF h) (newT 0)]
                · exact hr
                · unfold saF; rw [if_neg c400]
            obtain ⟨r1, hv1, hb1, hr1, H13⟩ := hmid
            have hl1 := hr1.len
            rw [setT_length] at hl1
            have hlt1 : i < (setT (saF h) i (fixF h i (tchF h k h.n))).length := by rw [setT_length]; exact hil'
            have hit1 : ((setT (saF h) i (fixF h i (tchF h k h.n))).getD i (newT 0)).item = ((fixF h i (tchF h k h.n)).getD i (newT 0)).item := by
              rw [setT_getD, if_pos ⟨rfl, hil'⟩]; rfl
            refine CE_seq ?_
            refine CE_reg ?_
            refine EL_p (Pu_mv rfl) rfl ?_
            refine EL_p (Pu_nil rfl) rfl ?_
            refine EL_p (Pu_fld rfl fi68_2) rfl ?_
            refine EL_ld rfl fl21 ((H13.ucell (j := 1) rfl hlt hb1 (i := i * 8 + 2) (by omega)).trans (congrArg some (hr1.gsw hlt1))) rfl ?_
            refine EL_p (Pu_lss rfl rfl) rfl ?_
            refine EL_nil ?_
            refine CE_cP rfl (fun c420 => ?_) (fun c420 => ?_)
            · refine CE_drawH H13 (fun w => HP W0 w (Fam h.nt 1 21 (s.g.Ro) :: Fam h.nt 8 68 (updR Rq k r1) :: Fam h.m 1 21 (s.g.Rw) :: Fam h.m 1 21 (s.g.Ra) :: Fam h.m 1 21 (s.g.Rr) :: MapK mb (s.g.f) :: Blk ib (h.m * 2) (itF (s.g.wr) (s.g.Rr)) :: Fam 1 1 21 Rl :: Blk gb 6 (cellsF (gcl h (Rl 0).val ab wb tb ub)) :: Blk ab h.m (hdr (s.g.Ra)) :: Blk wb h.m (hdr (s.g.Rw)) :: Blk tb h.nt (hdr (s.g.Rt)) :: Blk ub h.nt (hdr (s.g.Ro)) :: L)) [(0, 0), (1, 0), (2, 0), (3, 0), (4, 0), (5, 0), (6, 0), (7, 0), (8, 0), (9, 0), (10, 0), (11, 0), (12, 0), (13, 0), (14, 0), (15, 2)] mixed rfl (by kernel_rfl) (fun w14 H14 => ?_)
              refine AO_p rfl H14 (Pu.toIf (Pu_mv rfl)) rfl ?_
              refine AO_p rfl H14 (Pu.toIf (Pu_mv rfl)) rfl ?_
              refine AO_p rfl H14 (Pu.toIf (Pu_nil rfl)) rfl ?_
              refine AO_p rfl H14 (Pu.toIf (Pu_fld rfl fi65_3)) rfl ?_
              first | (refine AO_p rfl H14 (Ld rfl fl41 (fun w h => h.cell (j := 8) rfl (by decide))) rfl ?_) | (refine AO_p rfl H14 (Ld rfl fl41 (fun w h => (h.ucell (j := 1) rfl hlt hb1 (i := i * 8) (by omega)).trans (congrArg some ((hr1.gitem hlt1).trans (congrArg (fun z : Nat => Value.int .i32 (z : Int)) hit1))))) rfl ?_) | (refine AO_p rfl H14 (Ld rfl fl41 (fun w h => h.cell (j := 10) rfl hitem)) rfl ?_)
              refine AO_p rfl H14 (Pu.toIf (Pu_mv rfl)) rfl ?_
              refine AO_p rfl H14 (Pu.toIf (Pu_nil rfl)) rfl ?_
              refine AO_p rfl H14 (Pu.toIf (Pu_fld rfl fi68_0)) rfl ?_
              first | (refine AO_p rfl H14 (Ld rfl fl21 (fun w h => h.cell (j := 8) rfl (by decide))) rfl ?_) | (refine AO_p rfl H14 (Ld rfl fl21 (fun w h => (h.ucell (j := 1) rfl hlt hb1 (i := i * 8) (by omega)).trans (congrArg some ((hr1.gitem hlt1).trans (congrArg (fun z : Nat => Value.int .i32 (z : Int)) hit1))))) rfl ?_) | (refine AO_p rfl H14 (Ld rfl fl21 (fun w h => h.cell (j := 10) rfl hitem)) rfl ?_)
              refine AO_p rfl H14 (Pu.toIf (Pu_ix (j := ((fixF h i (tchF h k h.n)).getD i (newT 0)).item) rfl rfl sl41 rfl hitem)) rfl ?_
              first | (refine AO_p rfl H14 (Ld rfl fl24 (fun w h => h.cell (j := 8) rfl (by decide))) rfl ?_) | (refine AO_p rfl H14 (Ld rfl fl24 (fun w h => (h.ucell (j := 1) rfl hlt hb1 (i := i * 8) (by omega)).trans (congrArg some ((hr1.gitem hlt1).trans (congrArg (fun z : Nat => Value.int .i32 (z : Int)) hit1))))) rfl ?_) | (refine AO_p rfl H14 (Ld rfl fl24 (fun w h => h.cell (j := 10) rfl hitem)) rfl ?_)
              refine AO_p rfl H14 (Pu.toIf (Pu_len rfl sl24 rfl)) rfl ?_
              refine AO_p rfl H14 (Pu.toIf (Pu_cnv rfl in3 in21 (w32 (by omega)))) rfl ?_
              refine AO_p rfl H14 (Pu.toIf (Pu_nil rfl)) rfl ?_
              refine AO_p rfl H14 (Pu.toIf (Pu_fld rfl fi68_2)) rfl ?_
              refine AO_S0 rfl (Lo_ust (j := 1) (i := i * 8 + 2) H14 rfl hlt hb1 rfl rfl fl21 rfl (by omega) (fun w15 H15 => ?_))
              refine AO_nil ?_
              refine CE_reg ?_
              refine EL_p (Pu_add rfl rfl (w64 (by omega))) rfl ?_
              refine EL_p (Pu_mv rfl) rfl ?_
              refine EL_nil ?_
              refine ⟨i + 1, by omega, ⟨rfl, rfl, rfl, rfl, rfl, rfl, rfl, trivial⟩, hil, ⟨r1.blk, r1.len, r1.cap, setF r1.c (i * 8 + 2) (.int .i32 (s.g.Rw ((fixF h i (tchF h k h.n)).getD i (newT 0)).item).len)⟩, hv1, ?_, H15⟩
              have h1 := hr1.sw hlt1 ((s.g.Rw ((fixF h i (tchF h k h.n)).getD i (newT 0)).item).len : Int)
              rw [setT_congr (fun c : Tch => { c with sw := ((s.g.Rw ((fixF h i (tchF h k h.n)).getD i (newT 0)).item).len : Int) }) (swF h) (newT 0), setT_setT, fin_comp, fixF_step] at h1
              · exact h1
              · unfold swF; rw [if_pos c420, hit1, hwl]
            · refine CE_skip ?_
              refine CE_reg ?_
              refine EL_p (Pu_add rfl rfl (w64 (by omega))) rfl ?_
              refine EL_p (Pu_mv rfl) rfl ?_
              refine EL_nil ?_
              refine ⟨i + 1, by omega, ⟨rfl, rfl, rfl, rfl, rfl, rfl, rfl, trivial⟩, hil, r1, hv1, ?_, H13⟩
              have h1 := hr1
              rw [← setT_id (swF h) (newT 0) i (setT (saF h) i (fixF h i (tchF h k h.n))) (by unfold swF; rw [if_neg c420]), setT_setT, fin_comp, fixF_step] at h1
              exact h1
          · refine CE_exit ?_
            refine CE_reg ?_
            refine EL_p (Pu_add rfl rfl (w64 (by omega))) rfl ?_
            refine EL_p (Pu_mv rfl) rfl ?_
            refine EL_nil ?_
            refine ⟨k + 1, by omega, ⟨rfl, rfl, rfl, rfl, trivial⟩, hlt, updR Rq k r, fun t ht => ?_, H12⟩
            by_cases h1 : t = k
            · subst h1
              rw [updR_self, if_pos (Nat.lt_succ_self t)]
              refine ⟨hv, ?_⟩
              rw [fixF_all h i _ (by omega)] at hr
              exact hr
            · rw [updR_ne _ _ h1]
              have h2 := hRq t ht
              by_cases h3 : t < k
              · rw [if_pos (by omega)]; rw [if_pos h3] at h2; exact h2
              · rw [if_neg (by omega)]; rw [if_neg h3] at h2; exact h2
        · refine CE_exit ?_
          refine CE_seq ?_
          refine CE_reg ?_
          refine EL_p (Pu_mv rfl) rfl ?_
          refine EL_p (Pu_as rfl) rfl ?_
          refine EL_nil ?_
          refine CE_ret ?_
          have H12 := (((H11.erase 4).erase 4).erase 4).congr (j := 8) rfl (g := hdr Rq) (fun t ht => ((hRq t ht).1).symm)
          refine ⟨_, rfl, gb, ab, wb, tb, ub, ⟨Rl, s.g.Ra, s.g.Rw, Rq, s.g.Ro⟩, rfl, ⟨hRl, hi.acc, hi.wrs, hi.out, fun t ht => ?_⟩, H12⟩
          have h2 := (hRq t ht).2
          rw [if_pos (by omega)] at h2
          exact h2
end Go.Proofs.Qxb6602549a
