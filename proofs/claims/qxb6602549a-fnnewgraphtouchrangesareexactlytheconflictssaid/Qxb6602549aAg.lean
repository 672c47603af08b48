/-
  agrees, walked.
-/
import Derived.Test.Qxb6602549aTm
import Derived.Test.Qxb6602549aConf
namespace Go.Proofs.Qxb6602549a
open Go Go.RowKit
set_option linter.unusedSimpArgs false
set_option linter.unusedVariables false

theorem Pu_eqlB {P : Program} {N : Nat} {e : Env} {x y : Operand} {t t2 ty : TypeId} {a1 b1 : Bool} (hx : opv e x = some (.bool a1)) (hy : opv e y = some (.bool b1)) (ht : P.underlying t = some .bool) : Pu P N (.binOp .eql t x y t2) ty e (.bool (a1 == b1)) := by
  refine ⟨fun a ha dst pos af g w => ?_⟩
  have h : ∀ d : Nat, (Op.equalIn (d + 1) t (.bool a1) (.bool b1)).run P w = .ok (a1 == b1) w := fun d => by
    simp [Op.equalIn, run_underlying ht]
  have h2 : (binOp .eql t (.bool a1) (.bool b1)).run P w = .ok (.bool (a1 == b1)) w := by
    simp only [binOp]
    simp [Op.equal, Op.maxDepth, h 9999]
  simp [execOp, ha.eval hx, ha.eval hy, eqGuard, h2]

theorem agrees31 {W0 w : World} {M : List Chunk} {nt t u b2 b3 b4 b5 b6 b7 : Nat} {Fa Fw La Lw : Nat → Int} {Su Pr : Nat → Bool} (H : HP W0 w M)
    (m2 : Blk b2 nt (fun i => .int .i64 (Fa i)) ∈ M) (m3 : Blk b3 nt (fun i => .int .i64 (Fw i)) ∈ M) (m4 : Blk b4 nt (fun i => .int .i64 (La i)) ∈ M) (m5 : Blk b5 nt (fun i => .int .i64 (Lw i)) ∈ M) (m6 : Blk b6 nt (fun i => .bool (Su i)) ∈ M) (m7 : Blk b7 nt (fun i => .bool (Pr i)) ∈ M)
    (ht : t < nt) (hu : u < nt) (hs : ((0 ≤ Fw t ∧ Fw t < La u) ∨ Fa t < Lw u) ↔ Su u = true) (hp : ((0 ≤ Fw u ∧ Fw u < La t) ∨ (0 ≤ Fa u ∧ Fa u < Lw t)) ↔ Pr u = true) :
    Calls Try.prog 31 #[.int .i64 t, .int .i64 u, .slice (some ⟨b2, 0, none⟩) nt nt, .slice (some ⟨b3, 0, none⟩) nt nt, .slice (some ⟨b4, 0, none⟩) nt nt, .slice (some ⟨b5, 0, none⟩) nt nt, .slice (some ⟨b6, 0, none⟩) nt nt, .slice (some ⟨b7, 0, none⟩) nt nt] w fun y w' => y = .returned (.bool true) ∧ HP W0 w' M := by
  refine calls_CE Try.func31 rfl Try.ntmps31 rfl rfl ?_
  refine CE_seq ?_
  refine CE_reg ?_
  refine EL_p (Pu_as rfl) rfl ?_
  refine EL_nil ?_
  refine CE_midG (fun (b : Bool) => [(0, .int .i64 t), (1, .int .i64 u), (2, .slice (some ⟨b2, 0, none⟩) nt nt), (3, .slice (some ⟨b3, 0, none⟩) nt nt), (4, .slice (some ⟨b4, 0, none⟩) nt nt), (5, .slice (some ⟨b5, 0, none⟩) nt nt), (6, .slice (some ⟨b6, 0, none⟩) nt nt), (7, .slice (some ⟨b7, 0, none⟩) nt nt), (17, .bool b)]) (fun b w' => (((0 ≤ Fw t ∧ Fw t < La u) ∨ Fa t < Lw u) ↔ b = true) ∧ HP W0 w' M) ?_ (fun p w1 hmid => ?_)
  · refine CE_drawH H (fun w' => HP W0 w' M) [(0, 0), (1, 0), (2, 0), (3, 0), (4, 0), (5, 0), (6, 0), (7, 0), (8, 0), (9, 0), (10, 0), (11, 0), (12, 0), (13, 0), (14, 0), (15, 0), (16, 0), (17, 0), (18, 0), (19, 0), (20, 0), (21, 0), (22, 0), (23, 0), (24, 0), (25, 0), (26, 0), (27, 0)] mixed rfl (by kernel_rfl) (fun w2 H2 => ?_)
    refine AO_p rfl H2 (Pu.toIf (Pu_mv rfl)) rfl ?_
    refine AO_p rfl H2 (Pu.toIf (Pu_mv rfl)) rfl ?_
    first | (refine AO_p rfl H2 (Pu.toIf (Pu_ix rfl rfl sl23 rfl ht)) rfl ?_) | (refine AO_p rfl H2 (Pu.toIf (Pu_ix rfl rfl sl23 rfl hu)) rfl ?_)
    first | (refine AO_p rfl H2 (Ld rfl fl3 (fun w h => h.cellM m3 ht)) rfl ?_) | (refine AO_p rfl H2 (Ld rfl fl3 (fun w h => h.cellM m4 hu)) rfl ?_) | (refine AO_p rfl H2 (Ld rfl fl3 (fun w h => h.cellM m5 hu)) rfl ?_) | (refine AO_p rfl H2 (Ld rfl fl3 (fun w h => h.cellM m2 ht)) rfl ?_)
    refine AO_p rfl H2 (Pu.toIf (Pu_geq rfl rfl)) rfl ?_
    refine AO_p rfl H2 (Pu.toIf (Pu_mv rfl)) rfl ?_
    refine AO_gP rfl rfl rfl (fun g24 => ?_) (fun g24 => ?_)
    · refine AO_yes rfl rfl rfl H2 (Pu.toIf (Pu_mv rfl)) rfl ?_
      refine AO_yes rfl rfl rfl H2 (Pu.toIf (Pu_mv rfl)) rfl ?_
      first | (refine AO_yes rfl rfl rfl H2 (Pu.toIf (Pu_ix rfl rfl sl23 rfl ht)) rfl ?_) | (refine AO_yes rfl rfl rfl H2 (Pu.toIf (Pu_ix rfl rfl sl23 rfl hu)) rfl ?_)
      first | (refine AO_yes rfl rfl rfl H2 (Ld rfl fl3 (fun w h => h.cellM m3 ht)) rfl ?_) | (refine AO_yes rfl rfl rfl H2 (Ld rfl fl3 (fun w h => h.cellM m4 hu)) rfl ?_) | (refine AO_yes rfl rfl rfl H2 (Ld rfl fl3 (fun w h => h.cellM m5 hu)) rfl ?_) | (refine AO_yes rfl rfl rfl H2 (Ld rfl fl3 (fun w h => h.cellM m2 ht)) rfl ?_)
      refine AO_yes rfl rfl rfl H2 (Pu.toIf (Pu_mv rfl)) rfl ?_
      refine AO_yes rfl rfl rfl H2 (Pu.toIf (Pu_mv rfl)) rfl ?_
      first | (refine AO_yes rfl rfl rfl H2 (Pu.toIf (Pu_ix rfl rfl sl23 rfl ht)) rfl ?_) | (refine AO_yes rfl rfl rfl H2 (Pu.toIf (Pu_ix rfl rfl sl23 rfl hu)) rfl ?_)
      first | (refine AO_yes rfl rfl rfl H2 (Ld rfl fl3 (fun w h => h.cellM m3 ht)) rfl ?_) | (refine AO_yes rfl rfl rfl H2 (Ld rfl fl3 (fun w h => h.cellM m4 hu)) rfl ?_) | (refine AO_yes rfl rfl rfl H2 (Ld rfl fl3 (fun w h => h.cellM m5 hu)) rfl ?_) | (refine AO_yes rfl rfl rfl H2 (Ld rfl fl3 (fun w h => h.cellM m2 ht)) rfl ?_)
      refine AO_yes rfl rfl rfl H2 (Pu.toIf (Pu_gtr rfl rfl)) rfl ?_
      refine AO_p rfl H2 (Pu.toIf (Pu_pt rfl rfl)) rfl ?_
      refine AO_p rfl H2 (Pu.toIf (Pu_mv rfl)) rfl ?_
      refine AO_gP rfl rfl rfl (fun g35 => ?_) (fun g35 => ?_)
      · refine AO_no rfl rfl rfl rfl H2 rfl ?_
        refine AO_no rfl rfl rfl rfl H2 rfl ?_
        refine AO_no rfl rfl rfl rfl H2 rfl ?_
        refine AO_no rfl rfl rfl rfl H2 rfl ?_
        refine AO_no rfl rfl rfl rfl H2 rfl ?_
        refine AO_no rfl rfl rfl rfl H2 rfl ?_
        refine AO_no rfl rfl rfl rfl H2 rfl ?_
        refine AO_no rfl rfl rfl rfl H2 rfl ?_
        refine AO_no rfl rfl rfl rfl H2 rfl ?_
        refine AO_p rfl H2 (Pu.toIf (Pu_pt rfl rfl)) rfl ?_
        refine AO_p rfl H2 (Pu.toIf (Pu_as rfl)) rfl ?_
        refine AO_nil ?_
        exact ⟨true, ⟨⟨fun _ => rfl, fun _ => .inl ⟨g24, g35⟩⟩, H2⟩, rfl, rfl, rfl, rfl, rfl, rfl, rfl, rfl, rfl, trivial⟩
      · refine AO_yes rfl rfl rfl H2 (Pu.toIf (Pu_mv rfl)) rfl ?_
        refine AO_yes rfl rfl rfl H2 (Pu.toIf (Pu_mv rfl)) rfl ?_
        first | (refine AO_yes rfl rfl rfl H2 (Pu.toIf (Pu_ix rfl rfl sl23 rfl ht)) rfl ?_) | (refine AO_yes rfl rfl rfl H2 (Pu.toIf (Pu_ix rfl rfl sl23 rfl hu)) rfl ?_)
        first | (refine AO_yes rfl rfl rfl H2 (Ld rfl fl3 (fun w h => h.cellM m3 ht)) rfl ?_) | (refine AO_yes rfl rfl rfl H2 (Ld rfl fl3 (fun w h => h.cellM m4 hu)) rfl ?_) | (refine AO_yes rfl rfl rfl H2 (Ld rfl fl3 (fun w h => h.cellM m5 hu)) rfl ?_) | (refine AO_yes rfl rfl rfl H2 (Ld rfl fl3 (fun w h => h.cellM m2 ht)) rfl ?_)
        refine AO_yes rfl rfl rfl H2 (Pu.toIf (Pu_mv rfl)) rfl ?_
        refine AO_yes rfl rfl rfl H2 (Pu.toIf (Pu_mv rfl)) rfl ?_
        first | (refine AO_yes rfl rfl rfl H2 (Pu.toIf (Pu_ix rfl rfl sl23 rfl ht)) rfl ?_) | (refine AO_yes rfl rfl rfl H2 (Pu.toIf (Pu_ix rfl rfl sl23 rfl hu)) rfl ?_)
        first | (refine AO_yes rfl rfl rfl H2 (Ld rfl fl3 (fun w h => h.cellM m3 ht)) rfl ?_) | (refine AO_yes rfl rfl rfl H2 (Ld rfl fl3 (fun w h => h.cellM m4 hu)) rfl ?_) | (refine AO_yes rfl rfl rfl H2 (Ld rfl fl3 (fun w h => h.cellM m5 hu)) rfl ?_) | (refine AO_yes rfl rfl rfl H2 (Ld rfl fl3 (fun w h => h.cellM m2 ht)) rfl ?_)
        refine AO_yes rfl rfl rfl H2 (Pu.toIf (Pu_gtr rfl rfl)) rfl ?_
        refine AO_p rfl H2 (Pu.toIf (Pu_pf rfl rfl)) rfl ?_
        refine AO_p rfl H2 (Pu.toIf (Pu_as rfl)) rfl ?_
        refine AO_nil ?_
        exact ⟨decide (Fa t < Lw u), ⟨⟨fun hh => decide_eq_true (hh.resolve_left (fun h2 => g35 h2.2)), fun hh => .inr (of_decide_eq_true hh)⟩, H2⟩, rfl, rfl, rfl, rfl, rfl, rfl, rfl, rfl, rfl, trivial⟩
    · refine AO_no rfl rfl rfl rfl H2 rfl ?_
      refine AO_no rfl rfl rfl rfl H2 rfl ?_
      refine AO_no rfl rfl rfl rfl H2 rfl ?_
      refine AO_no rfl rfl rfl rfl H2 rfl ?_
      refine AO_no rfl rfl rfl rfl H2 rfl ?_
      refine AO_no rfl rfl rfl rfl H2 rfl ?_
      refine AO_no rfl rfl rfl rfl H2 rfl ?_
      refine AO_no rfl rfl rfl rfl H2 rfl ?_
      refine AO_no rfl rfl rfl rfl H2 rfl ?_
      refine AO_p rfl H2 (Pu.toIf (Pu_pf rfl rfl)) rfl ?_
      refine AO_p rfl H2 (Pu.toIf (Pu_mv rfl)) rfl ?_
      refine AO_yes rfl rfl rfl H2 (Pu.toIf (Pu_mv rfl)) rfl ?_
      refine AO_yes rfl rfl rfl H2 (Pu.toIf (Pu_mv rfl)) rfl ?_
      first | (refine AO_yes rfl rfl rfl H2 (Pu.toIf (Pu_ix rfl rfl sl23 rfl ht)) rfl ?_) | (refine AO_yes rfl rfl rfl H2 (Pu.toIf (Pu_ix rfl rfl sl23 rfl hu)) rfl ?_)
      first | (refine AO_yes rfl rfl rfl H2 (Ld rfl fl3 (fun w h => h.cellM m3 ht)) rfl ?_) | (refine AO_yes rfl rfl rfl H2 (Ld rfl fl3 (fun w h => h.cellM m4 hu)) rfl ?_) | (refine AO_yes rfl rfl rfl H2 (Ld rfl fl3 (fun w h => h.cellM m5 hu)) rfl ?_) | (refine AO_yes rfl rfl rfl H2 (Ld rfl fl3 (fun w h => h.cellM m2 ht)) rfl ?_)
      refine AO_yes rfl rfl rfl H2 (Pu.toIf (Pu_mv rfl)) rfl ?_
      refine AO_yes rfl rfl rfl H2 (Pu.toIf (Pu_mv rfl)) rfl ?_
      first | (refine AO_yes rfl rfl rfl H2 (Pu.toIf (Pu_ix rfl rfl sl23 rfl ht)) rfl ?_) | (refine AO_yes rfl rfl rfl H2 (Pu.toIf (Pu_ix rfl rfl sl23 rfl hu)) rfl ?_)
      first | (refine AO_yes rfl rfl rfl H2 (Ld rfl fl3 (fun w h => h.cellM m3 ht)) rfl ?_) | (refine AO_yes rfl rfl rfl H2 (Ld rfl fl3 (fun w h => h.cellM m4 hu)) rfl ?_) | (refine AO_yes rfl rfl rfl H2 (Ld rfl fl3 (fun w h => h.cellM m5 hu)) rfl ?_) | (refine AO_yes rfl rfl rfl H2 (Ld rfl fl3 (fun w h => h.cellM m2 ht)) rfl ?_)
      refine AO_yes rfl rfl rfl H2 (Pu.toIf (Pu_gtr rfl rfl)) rfl ?_
      refine AO_p rfl H2 (Pu.toIf (Pu_pf rfl rfl)) rfl ?_
      refine AO_p rfl H2 (Pu.toIf (Pu_as rfl)) rfl ?_
      refine AO_nil ?_
      exact ⟨decide (Fa t < Lw u), ⟨⟨fun hh => decide_eq_true (hh.resolve_left (fun h2 => g24 h2.1)), fun hh => .inr (of_decide_eq_true hh)⟩, H2⟩, rfl, rfl, rfl, rfl, rfl, rfl, rfl, rfl, rfl, trivial⟩
  obtain ⟨hp1, H1⟩ := hmid
  refine CE_midG (fun (b : Bool) => [(0, .int .i64 t), (1, .int .i64 u), (2, .slice (some ⟨b2, 0, none⟩) nt nt), (3, .slice (some ⟨b3, 0, none⟩) nt nt), (4, .slice (some ⟨b4, 0, none⟩) nt nt), (5, .slice (some ⟨b5, 0, none⟩) nt nt), (6, .slice (some ⟨b6, 0, none⟩) nt nt), (7, .slice (some ⟨b7, 0, none⟩) nt nt), (17, .bool p), (18, .bool b)]) (fun b w' => (((0 ≤ Fw u ∧ Fw u < La t) ∨ (0 ≤ Fa u ∧ Fa u < Lw t)) ↔ b = true) ∧ HP W0 w' M) ?_ (fun q w2 hmid => ?_)
  · refine CE_drawH H1 (fun w' => HP W0 w' M) [(0, 0), (1, 0), (2, 0), (3, 0), (4, 0), (5, 0), (6, 0), (7, 0), (8, 0), (9, 0), (10, 0), (11, 0), (12, 0), (13, 0), (14, 0), (15, 0), (16, 0), (17, 0), (18, 0), (19, 0), (20, 0), (21, 0), (22, 0), (23, 0), (24, 0), (25, 0), (26, 0), (27, 0), (28, 0), (29, 0), (30, 0), (31, 0), (32, 0), (33, 0), (34, 0)] mixed rfl (by kernel_rfl) (fun w3 H3 => ?_)
    refine AO_p rfl H3 (Pu.toIf (Pu_mv rfl)) rfl ?_
    refine AO_p rfl H3 (Pu.toIf (Pu_mv rfl)) rfl ?_
    first | (refine AO_p rfl H3 (Pu.toIf (Pu_ix rfl rfl sl23 rfl ht)) rfl ?_) | (refine AO_p rfl H3 (Pu.toIf (Pu_ix rfl rfl sl23 rfl hu)) rfl ?_)
    first | (refine AO_p rfl H3 (Ld rfl fl3 (fun w h => h.cellM m3 hu)) rfl ?_) | (refine AO_p rfl H3 (Ld rfl fl3 (fun w h => h.cellM m4 ht)) rfl ?_) | (refine AO_p rfl H3 (Ld rfl fl3 (fun w h => h.cellM m5 ht)) rfl ?_) | (refine AO_p rfl H3 (Ld rfl fl3 (fun w h => h.cellM m2 hu)) rfl ?_)
    refine AO_p rfl H3 (Pu.toIf (Pu_geq rfl rfl)) rfl ?_
    refine AO_p rfl H3 (Pu.toIf (Pu_mv rfl)) rfl ?_
    refine AO_gP rfl rfl rfl (fun g51 => ?_) (fun g51 => ?_)
    · refine AO_yes rfl rfl rfl H3 (Pu.toIf (Pu_mv rfl)) rfl ?_
      refine AO_yes rfl rfl rfl H3 (Pu.toIf (Pu_mv rfl)) rfl ?_
      first | (refine AO_yes rfl rfl rfl H3 (Pu.toIf (Pu_ix rfl rfl sl23 rfl ht)) rfl ?_) | (refine AO_yes rfl rfl rfl H3 (Pu.toIf (Pu_ix rfl rfl sl23 rfl hu)) rfl ?_)
      first | (refine AO_yes rfl rfl rfl H3 (Ld rfl fl3 (fun w h => h.cellM m3 hu)) rfl ?_) | (refine AO_yes rfl rfl rfl H3 (Ld rfl fl3 (fun w h => h.cellM m4 ht)) rfl ?_) | (refine AO_yes rfl rfl rfl H3 (Ld rfl fl3 (fun w h => h.cellM m5 ht)) rfl ?_) | (refine AO_yes rfl rfl rfl H3 (Ld rfl fl3 (fun w h => h.cellM m2 hu)) rfl ?_)
      refine AO_yes rfl rfl rfl H3 (Pu.toIf (Pu_mv rfl)) rfl ?_
      refine AO_yes rfl rfl rfl H3 (Pu.toIf (Pu_mv rfl)) rfl ?_
      first | (refine AO_yes rfl rfl rfl H3 (Pu.toIf (Pu_ix rfl rfl sl23 rfl ht)) rfl ?_) | (refine AO_yes rfl rfl rfl H3 (Pu.toIf (Pu_ix rfl rfl sl23 rfl hu)) rfl ?_)
      first | (refine AO_yes rfl rfl rfl H3 (Ld rfl fl3 (fun w h => h.cellM m3 hu)) rfl ?_) | (refine AO_yes rfl rfl rfl H3 (Ld rfl fl3 (fun w h => h.cellM m4 ht)) rfl ?_) | (refine AO_yes rfl rfl rfl H3 (Ld rfl fl3 (fun w h => h.cellM m5 ht)) rfl ?_) | (refine AO_yes rfl rfl rfl H3 (Ld rfl fl3 (fun w h => h.cellM m2 hu)) rfl ?_)
      refine AO_yes rfl rfl rfl H3 (Pu.toIf (Pu_gtr rfl rfl)) rfl ?_
      refine AO_p rfl H3 (Pu.toIf (Pu_pt rfl rfl)) rfl ?_
      refine AO_p rfl H3 (Pu.toIf (Pu_mv rfl)) rfl ?_
      refine AO_gP rfl rfl rfl (fun g62 => ?_) (fun g62 => ?_)
      · refine AO_no rfl rfl rfl rfl H3 rfl ?_
        refine AO_no rfl rfl rfl rfl H3 rfl ?_
        refine AO_no rfl rfl rfl rfl H3 rfl ?_
        refine AO_no rfl rfl rfl rfl H3 rfl ?_
        refine AO_no rfl rfl rfl rfl H3 rfl ?_
        refine AO_no rfl rfl rfl rfl H3 rfl ?_
        refine AO_nu rfl rfl rfl H3 rfl ?_
        refine AO_nu rfl rfl rfl H3 rfl ?_
        refine AO_nu rfl rfl rfl H3 rfl ?_
        refine AO_nu rfl rfl rfl H3 rfl ?_
        refine AO_nu rfl rfl rfl H3 rfl ?_
        refine AO_nu rfl rfl rfl H3 rfl ?_
        refine AO_nu rfl rfl rfl H3 rfl ?_
        refine AO_nu rfl rfl rfl H3 rfl ?_
        refine AO_nu rfl rfl rfl H3 rfl ?_
        refine AO_no rfl rfl rfl rfl H3 rfl ?_
        refine AO_p rfl H3 (Pu.toIf (Pu_pt rfl rfl)) rfl ?_
        refine AO_p rfl H3 (Pu.toIf (Pu_as rfl)) rfl ?_
        refine AO_nil ?_
        exact ⟨true, ⟨⟨fun _ => rfl, fun _ => .inl ⟨g51, g62⟩⟩, H3⟩, rfl, rfl, rfl, rfl, rfl, rfl, rfl, rfl, rfl, rfl, trivial⟩
      · refine AO_yes rfl rfl rfl H3 (Pu.toIf (Pu_mv rfl)) rfl ?_
        refine AO_yes rfl rfl rfl H3 (Pu.toIf (Pu_mv rfl)) rfl ?_
        first | (refine AO_yes rfl rfl rfl H3 (Pu.toIf (Pu_ix rfl rfl sl23 rfl ht)) rfl ?_) | (refine AO_yes rfl rfl rfl H3 (Pu.toIf (Pu_ix rfl rfl sl23 rfl hu)) rfl ?_)
        first | (refine AO_yes rfl rfl rfl H3 (Ld rfl fl3 (fun w h => h.cellM m3 hu)) rfl ?_) | (refine AO_yes rfl rfl rfl H3 (Ld rfl fl3 (fun w h => h.cellM m4 ht)) rfl ?_) | (refine AO_yes rfl rfl rfl H3 (Ld rfl fl3 (fun w h => h.cellM m5 ht)) rfl ?_) | (refine AO_yes rfl rfl rfl H3 (Ld rfl fl3 (fun w h => h.cellM m2 hu)) rfl ?_)
        refine AO_yes rfl rfl rfl H3 (Pu.toIf (Pu_geq rfl rfl)) rfl ?_
        refine AO_yes rfl rfl rfl H3 (Pu.toIf (Pu_mv rfl)) rfl ?_
        refine AO_gP rfl rfl rfl (fun g68 => ?_) (fun g68 => ?_)
        · refine AO_yes rfl rfl rfl H3 (Pu.toIf (Pu_mv rfl)) rfl ?_
          refine AO_yes rfl rfl rfl H3 (Pu.toIf (Pu_mv rfl)) rfl ?_
          first | (refine AO_yes rfl rfl rfl H3 (Pu.toIf (Pu_ix rfl rfl sl23 rfl ht)) rfl ?_) | (refine AO_yes rfl rfl rfl H3 (Pu.toIf (Pu_ix rfl rfl sl23 rfl hu)) rfl ?_)
          first | (refine AO_yes rfl rfl rfl H3 (Ld rfl fl3 (fun w h => h.cellM m3 hu)) rfl ?_) | (refine AO_yes rfl rfl rfl H3 (Ld rfl fl3 (fun w h => h.cellM m4 ht)) rfl ?_) | (refine AO_yes rfl rfl rfl H3 (Ld rfl fl3 (fun w h => h.cellM m5 ht)) rfl ?_) | (refine AO_yes rfl rfl rfl H3 (Ld rfl fl3 (fun w h => h.cellM m2 hu)) rfl ?_)
          refine AO_yes rfl rfl rfl H3 (Pu.toIf (Pu_mv rfl)) rfl ?_
          refine AO_yes rfl rfl rfl H3 (Pu.toIf (Pu_mv rfl)) rfl ?_
          first | (refine AO_yes rfl rfl rfl H3 (Pu.toIf (Pu_ix rfl rfl sl23 rfl ht)) rfl ?_) | (refine AO_yes rfl rfl rfl H3 (Pu.toIf (Pu_ix rfl rfl sl23 rfl hu)) rfl ?_)
          first | (refine AO_yes rfl rfl rfl H3 (Ld rfl fl3 (fun w h => h.cellM m3 hu)) rfl ?_) | (refine AO_yes rfl rfl rfl H3 (Ld rfl fl3 (fun w h => h.cellM m4 ht)) rfl ?_) | (refine AO_yes rfl rfl rfl H3 (Ld rfl fl3 (fun w h => h.cellM m5 ht)) rfl ?_) | (refine AO_yes rfl rfl rfl H3 (Ld rfl fl3 (fun w h => h.cellM m2 hu)) rfl ?_)
          refine AO_yes rfl rfl rfl H3 (Pu.toIf (Pu_gtr rfl rfl)) rfl ?_
          refine AO_yes rfl rfl rfl H3 (Pu.toIf (Pu_pt rfl rfl)) rfl ?_
          refine AO_p rfl H3 (Pu.toIf (Pu_pf rfl rfl)) rfl ?_
          refine AO_p rfl H3 (Pu.toIf (Pu_as rfl)) rfl ?_
          refine AO_nil ?_
          exact ⟨decide (Fa u < Lw t), ⟨⟨fun hh => decide_eq_true (hh.resolve_left (fun h2 => by first | exact g62 h2.2 | exact g51 h2.1)).2, fun hh => .inr ⟨g68, of_decide_eq_true hh⟩⟩, H3⟩, rfl, rfl, rfl, rfl, rfl, rfl, rfl, rfl, rfl, rfl, trivial⟩
        · refine AO_no rfl rfl rfl rfl H3 rfl ?_
          refine AO_no rfl rfl rfl rfl H3 rfl ?_
          refine AO_no rfl rfl rfl rfl H3 rfl ?_
          refine AO_no rfl rfl rfl rfl H3 rfl ?_
          refine AO_no rfl rfl rfl rfl H3 rfl ?_
          refine AO_no rfl rfl rfl rfl H3 rfl ?_
          refine AO_no rfl rfl rfl rfl H3 rfl ?_
          refine AO_no rfl rfl rfl rfl H3 rfl ?_
          refine AO_no rfl rfl rfl rfl H3 rfl ?_
          refine AO_yes rfl rfl rfl H3 (Pu.toIf (Pu_pf rfl rfl)) rfl ?_
          refine AO_p rfl H3 (Pu.toIf (Pu_pf rfl rfl)) rfl ?_
          refine AO_p rfl H3 (Pu.toIf (Pu_as rfl)) rfl ?_
          refine AO_nil ?_
          exact ⟨false, ⟨⟨fun hh => absurd (hh.resolve_left (fun h2 => by first | exact g62 h2.2 | exact g51 h2.1)).1 g68, fun hh => by cases hh⟩, H3⟩, rfl, rfl, rfl, rfl, rfl, rfl, rfl, rfl, rfl, rfl, trivial⟩
    · refine AO_no rfl rfl rfl rfl H3 rfl ?_
      refine AO_no rfl rfl rfl rfl H3 rfl ?_
      refine AO_no rfl rfl rfl rfl H3 rfl ?_
      refine AO_no rfl rfl rfl rfl H3 rfl ?_
      refine AO_no rfl rfl rfl rfl H3 rfl ?_
      refine AO_no rfl rfl rfl rfl H3 rfl ?_
      refine AO_no rfl rfl rfl rfl H3 rfl ?_
      refine AO_no rfl rfl rfl rfl H3 rfl ?_
      refine AO_no rfl rfl rfl rfl H3 rfl ?_
      refine AO_p rfl H3 (Pu.toIf (Pu_pf rfl rfl)) rfl ?_
      refine AO_p rfl H3 (Pu.toIf (Pu_mv rfl)) rfl ?_
      refine AO_yes rfl rfl rfl H3 (Pu.toIf (Pu_mv rfl)) rfl ?_
      refine AO_yes rfl rfl rfl H3 (Pu.toIf (Pu_mv rfl)) rfl ?_
      first | (refine AO_yes rfl rfl rfl H3 (Pu.toIf (Pu_ix rfl rfl sl23 rfl ht)) rfl ?_) | (refine AO_yes rfl rfl rfl H3 (Pu.toIf (Pu_ix rfl rfl sl23 rfl hu)) rfl ?_)
      first | (refine AO_yes rfl rfl rfl H3 (Ld rfl fl3 (fun w h => h.cellM m3 hu)) rfl ?_) | (refine AO_yes rfl rfl rfl H3 (Ld rfl fl3 (fun w h => h.cellM m4 ht)) rfl ?_) | (refine AO_yes rfl rfl rfl H3 (Ld rfl fl3 (fun w h => h.cellM m5 ht)) rfl ?_) | (refine AO_yes rfl rfl rfl H3 (Ld rfl fl3 (fun w h => h.cellM m2 hu)) rfl ?_)
      refine AO_yes rfl rfl rfl H3 (Pu.toIf (Pu_geq rfl rfl)) rfl ?_
      refine AO_yes rfl rfl rfl H3 (Pu.toIf (Pu_mv rfl)) rfl ?_
      refine AO_gP rfl rfl rfl (fun g68 => ?_) (fun g68 => ?_)
      · refine AO_yes rfl rfl rfl H3 (Pu.toIf (Pu_mv rfl)) rfl ?_
        refine AO_yes rfl rfl rfl H3 (Pu.toIf (Pu_mv rfl)) rfl ?_
        first | (refine AO_yes rfl rfl rfl H3 (Pu.toIf (Pu_ix rfl rfl sl23 rfl ht)) rfl ?_) | (refine AO_yes rfl rfl rfl H3 (Pu.toIf (Pu_ix rfl rfl sl23 rfl hu)) rfl ?_)
        first | (refine AO_yes rfl rfl rfl H3 (Ld rfl fl3 (fun w h => h.cellM m3 hu)) rfl ?_) | (refine AO_yes rfl rfl rfl H3 (Ld rfl fl3 (fun w h => h.cellM m4 ht)) rfl ?_) | (refine AO_yes rfl rfl rfl H3 (Ld rfl fl3 (fun w h => h.cellM m5 ht)) rfl ?_) | (refine AO_yes rfl rfl rfl H3 (Ld rfl fl3 (fun w h => h.cellM m2 hu)) rfl ?_)
        refine AO_yes rfl rfl rfl H3 (Pu.toIf (Pu_mv rfl)) rfl ?_
        refine AO_yes rfl rfl rfl H3 (Pu.toIf (Pu_mv rfl)) rfl ?_
        first | (refine AO_yes rfl rfl rfl H3 (Pu.toIf (Pu_ix rfl rfl sl23 rfl ht)) rfl ?_) | (refine AO_yes rfl rfl rfl H3 (Pu.toIf (Pu_ix rfl rfl sl23 rfl hu)) rfl ?_)
        first | (refine AO_yes rfl rfl rfl H3 (Ld rfl fl3 (fun w h => h.cellM m3 hu)) rfl ?_) | (refine AO_yes rfl rfl rfl H3 (Ld rfl fl3 (fun w h => h.cellM m4 ht)) rfl ?_) | (refine AO_yes rfl rfl rfl H3 (Ld rfl fl3 (fun w h => h.cellM m5 ht)) rfl ?_) | (refine AO_yes rfl rfl rfl H3 (Ld rfl fl3 (fun w h => h.cellM m2 hu)) rfl ?_)
        refine AO_yes rfl rfl rfl H3 (Pu.toIf (Pu_gtr rfl rfl)) rfl ?_
        refine AO_yes rfl rfl rfl H3 (Pu.toIf (Pu_pt rfl rfl)) rfl ?_
        refine AO_p rfl H3 (Pu.toIf (Pu_pf rfl rfl)) rfl ?_
        refine AO_p rfl H3 (Pu.toIf (Pu_as rfl)) rfl ?_
        refine AO_nil ?_
        exact ⟨decide (Fa u < Lw t), ⟨⟨fun hh => decide_eq_true (hh.resolve_left (fun h2 => by first | exact g62 h2.2 | exact g51 h2.1)).2, fun hh => .inr ⟨g68, of_decide_eq_true hh⟩⟩, H3⟩, rfl, rfl, rfl, rfl, rfl, rfl, rfl, rfl, rfl, rfl, trivial⟩
      · refine AO_no rfl rfl rfl rfl H3 rfl ?_
        refine AO_no rfl rfl rfl rfl H3 rfl ?_
        refine AO_no rfl rfl rfl rfl H3 rfl ?_
        refine AO_no rfl rfl rfl rfl H3 rfl ?_
        refine AO_no rfl rfl rfl rfl H3 rfl ?_
        refine AO_no rfl rfl rfl rfl H3 rfl ?_
        refine AO_no rfl rfl rfl rfl H3 rfl ?_
        refine AO_no rfl rfl rfl rfl H3 rfl ?_
        refine AO_no rfl rfl rfl rfl H3 rfl ?_
        refine AO_yes rfl rfl rfl H3 (Pu.toIf (Pu_pf rfl rfl)) rfl ?_
        refine AO_p rfl H3 (Pu.toIf (Pu_pf rfl rfl)) rfl ?_
        refine AO_p rfl H3 (Pu.toIf (Pu_as rfl)) rfl ?_
        refine AO_nil ?_
        exact ⟨false, ⟨⟨fun hh => absurd (hh.resolve_left (fun h2 => by first | exact g62 h2.2 | exact g51 h2.1)).1 g68, fun hh => by cases hh⟩, H3⟩, rfl, rfl, rfl, rfl, rfl, rfl, rfl, rfl, rfl, rfl, trivial⟩
  obtain ⟨hq1, H2⟩ := hmid
  have hpe : p = Su u := by rw [Bool.eq_iff_iff, ← hp1, hs]
  have hqe : q = Pr u := by rw [Bool.eq_iff_iff, ← hq1, hp]
  refine CE_seq ?_
  refine CE_reg ?_
  refine EL_p (Pu_mv rfl) rfl ?_
  refine EL_p (Pu_mv rfl) rfl ?_
  refine EL_p (Pu_mv rfl) rfl ?_
  first | (refine EL_p (Pu_ix rfl rfl sl25 rfl ht) rfl ?_) | (refine EL_p (Pu_ix rfl rfl sl25 rfl hu) rfl ?_)
  first | (refine EL_ld rfl fl4 (H2.cellM m6 hu) rfl ?_) | (refine EL_ld rfl fl4 (H2.cellM m7 hu) rfl ?_)
  refine EL_p (Pu_eqlB rfl rfl Try.underlying4) rfl ?_
  refine EL_p (Pu_mv rfl) rfl ?_
  refine EL_gB rfl rfl (fun g86 => ?_) (fun g86 => ?_)
  · refine EL_yes rfl rfl ?_
    refine EL_p (Pu_mv rfl) rfl ?_
    refine EL_yes rfl rfl ?_
    refine EL_p (Pu_mv rfl) rfl ?_
    refine EL_yes rfl rfl ?_
    refine EL_p (Pu_mv rfl) rfl ?_
    refine EL_yes rfl rfl ?_
    first | (refine EL_p (Pu_ix rfl rfl sl25 rfl ht) rfl ?_) | (refine EL_p (Pu_ix rfl rfl sl25 rfl hu) rfl ?_)
    refine EL_yes rfl rfl ?_
    first | (refine EL_ld rfl fl4 (H2.cellM m6 hu) rfl ?_) | (refine EL_ld rfl fl4 (H2.cellM m7 hu) rfl ?_)
    refine EL_yes rfl rfl ?_
    refine EL_p (Pu_eqlB rfl rfl Try.underlying4) rfl ?_
    refine EL_p (Pu_pt rfl rfl) rfl ?_
    refine EL_p (Pu_as rfl) rfl ?_
    refine EL_nil ?_
    refine CE_ret ?_
    exact ⟨_, rfl, by simp [hpe, hqe]; rfl, H2⟩
  · rw [hpe] at g86
    simp at g86 --stop
end Go.Proofs.Qxb6602549a
