/-
  Touches read; the model's functions, walked.
-/
import Derived.Test.Qxb6602549aGt
import Derived.Test.Qxb6602549aTPlain
namespace Go.Proofs.Qxb6602549a
open Go Go.RowKit
set_option linter.unusedSimpArgs false
set_option linter.unusedVariables false

theorem Ld68 {N : Nat} {e : Env} {ty : TypeId} {S : World → Prop} {x : Operand} {b o : Nat} {u0 u1 u2 u3 u4 u5 u6 u7 : Value} (hx : opv e x = some (.pointer (some ⟨b, o, none⟩))) (h0 : ∀ w, S w → w.cell? ⟨b, o, none⟩ = some u0) (h1 : ∀ w, S w → w.cell? ⟨b, o + 1, none⟩ = some u1) (h2 : ∀ w, S w → w.cell? ⟨b, o + 2, none⟩ = some u2) (h3 : ∀ w, S w → w.cell? ⟨b, o + 3, none⟩ = some u3) (h4 : ∀ w, S w → w.cell? ⟨b, o + 4, none⟩ = some u4) (h5 : ∀ w, S w → w.cell? ⟨b, o + 5, none⟩ = some u5) (h6 : ∀ w, S w → w.cell? ⟨b, o + 6, none⟩ = some u6) (h7 : ∀ w, S w → w.cell? ⟨b, o + 7, none⟩ = some u7) :
    PuIf Try.prog N S (.load 68 x) ty e (.agg #[u0, u1, u2, u3, u4, u5, u6, u7]) := by
  refine ⟨fun a ha dst pos af g w hS => ?_⟩
  have g0 := h0 w hS
  have g1 := h1 w hS
  have g2 := h2 w hS
  have g3 := h3 w hS
  have g4 := h4 w hS
  have g5 := h5 w hS
  have g6 := h6 w hS
  have g7 := h7 w hS
  simp [execOp, ha.eval hx, Instr.loadAt, Instr.sureAddr, loadVar, isAgg, run_underlying Try.underlying68, run_sizeOf (sizeT inf68), loadCells, loadCellsFrom, addr_add, g0, g1, g2, g3, g4, g5, g6, g7]

theorem Lo_st68 {N : Nat} {e : Env} {W0 w : World} {L : List Chunk} {x y : Operand} {ty : TypeId} {j b : Nat} {f : Nat → Value} {u0 u1 u2 u3 u4 u5 u6 u7 : Value} {Rr : Value → World → Prop} (H0 : HP W0 w L) (hj0 : L[j]? = some (Blk b 8 f))
    (hx : opv e x = some (.pointer (some ⟨b, 0, none⟩))) (hy : opv e y = some (.agg #[u0, u1, u2, u3, u4, u5, u6, u7])) (c0 : u0.oneCell' = true) (c1 : u1.oneCell' = true) (c2 : u2.oneCell' = true) (c3 : u3.oneCell' = true) (c4 : u4.oneCell' = true) (c5 : u5.oneCell' = true) (c6 : u6.oneCell' = true) (c7 : u7.oneCell' = true)
    (h : ∀ w', HP W0 w' (L.set j (Blk b 8 (cellsF [u0, u1, u2, u3, u4, u5, u6, u7]))) → Rr undef w') : Lo Try.prog N (.store 68 x y) ty e w Rr := by
  refine ⟨fun a ha dst pos af g => ?_⟩
  have hjl : j < L.length := (List.getElem?_eq_some_iff.1 hj0).1
  have H1 := H0.store hj0 (i := 0) (by omega) u0
  have hj1 : (L.set j (Blk b 8 (setF f 0 u0)))[j]? = some (Blk b 8 (setF f 0 u0)) := by rw [List.getElem?_set_self hjl]
  have H2 := H1.store hj1 (i := 1) (by omega) u1
  rw [List.set_set] at H2
  have hj2 : (L.set j (Blk b 8 (setF (setF f 0 u0) 1 u1)))[j]? = some (Blk b 8 (setF (setF f 0 u0) 1 u1)) := by rw [List.getElem?_set_self hjl]
  have H3 := H2.store hj2 (i := 2) (by omega) u2
  rw [List.set_set] at H3
  have hj3 : (L.set j (Blk b 8 (setF (setF (setF f 0 u0) 1 u1) 2 u2)))[j]? = some (Blk b 8 (setF (setF (setF f 0 u0) 1 u1) 2 u2)) := by rw [List.getElem?_set_self hjl]
  have H4 := H3.store hj3 (i := 3) (by omega) u3
  rw [List.set_set] at H4
  have hj4 : (L.set j (Blk b 8 (setF (setF (setF (setF f 0 u0) 1 u1) 2 u2) 3 u3)))[j]? = some (Blk b 8 (setF (setF (setF (setF f 0 u0) 1 u1) 2 u2) 3 u3)) := by rw [List.getElem?_set_self hjl]
  have H5 := H4.store hj4 (i := 4) (by omega) u4
  rw [List.set_set] at H5
  have hj5 : (L.set j (Blk b 8 (setF (setF (setF (setF (setF f 0 u0) 1 u1) 2 u2) 3 u3) 4 u4)))[j]? = some (Blk b 8 (setF (setF (setF (setF (setF f 0 u0) 1 u1) 2 u2) 3 u3) 4 u4)) := by rw [List.getElem?_set_self hjl]
  have H6 := H5.store hj5 (i := 5) (by omega) u5
  rw [List.set_set] at H6
  have hj6 : (L.set j (Blk b 8 (setF (setF (setF (setF (setF (setF f 0 u0) 1 u1) 2 u2) 3 u3) 4 u4) 5 u5)))[j]? = some (Blk b 8 (setF (setF (setF (setF (setF (setF f 0 u0) 1 u1) 2 u2) 3 u3) 4 u4) 5 u5)) := by rw [List.getElem?_set_self hjl]
  have H7 := H6.store hj6 (i := 6) (by omega) u6
  rw [List.set_set] at H7
  have hj7 : (L.set j (Blk b 8 (setF (setF (setF (setF (setF (setF (setF f 0 u0) 1 u1) 2 u2) 3 u3) 4 u4) 5 u5) 6 u6)))[j]? = some (Blk b 8 (setF (setF (setF (setF (setF (setF (setF f 0 u0) 1 u1) 2 u2) 3 u3) 4 u4) 5 u5) 6 u6)) := by rw [List.getElem?_set_self hjl]
  have H8 := H7.store hj7 (i := 7) (by omega) u7
  rw [List.set_set] at H8
  have hj8 : (L.set j (Blk b 8 (setF (setF (setF (setF (setF (setF (setF (setF f 0 u0) 1 u1) 2 u2) 3 u3) 4 u4) 5 u5) 6 u6) 7 u7)))[j]? = some (Blk b 8 (setF (setF (setF (setF (setF (setF (setF (setF f 0 u0) 1 u1) 2 u2) 3 u3) 4 u4) 5 u5) 6 u6) 7 u7)) := by rw [List.getElem?_set_self hjl]
  have H9 := H8.congr hj8 (g := cellsF [u0, u1, u2, u3, u4, u5, u6, u7]) (fun i hi => by
    rcases lt8 hi with rfl | rfl | rfl | rfl | rfl | rfl | rfl | rfl <;> rfl)
  rw [List.set_set] at H9
  refine .inr (.inl ⟨_, ?_, h _ H9⟩)
  have a0 := H0.cell hj0 (i := 0) (by omega)
  have f0 := H0.frz hj0 (i := 0)
  have a1 := H1.cell hj1 (i := 1) (by omega)
  have f1 := H1.frz hj1 (i := 1)
  have a2 := H2.cell hj2 (i := 2) (by omega)
  have f2 := H2.frz hj2 (i := 2)
  have a3 := H3.cell hj3 (i := 3) (by omega)
  have f3 := H3.frz hj3 (i := 3)
  have a4 := H4.cell hj4 (i := 4) (by omega)
  have f4 := H4.frz hj4 (i := 4)
  have a5 := H5.cell hj5 (i := 5) (by omega)
  have f5 := H5.frz hj5 (i := 5)
  have a6 := H6.cell hj6 (i := 6) (by omega)
  have f6 := H6.frz hj6 (i := 6)
  have a7 := H7.cell hj7 (i := 7) (by omega)
  have f7 := H7.frz hj7 (i := 7)
  simp [execOp, ha.eval hx, ha.eval hy, Instr.storeAt, Instr.sureAddr, storeVar, Value.cells, run_sizeOf (sizeT inf68), storeCells, addr_add, run_store, c0, c1, c2, c3, c4, c5, c6, c7, a0, f0, a1, f1, a2, f2, a3, f3, a4, f4, a5, f5, a6, f6, a7, f7]

def tval (c : Tch) : Value := .tuple #[.int .i32 c.item, .int .i32 c.sa, .int .i32 c.sw, .int .i32 c.pa, .int .i32 c.pw, .bool c.rf, .int .i32 c.fr, .bool c.fs]

theorem touch30 {W0 w : World} {M : List Chunk} {h : HRec} {G : GRows} {B : GB} {t i : Nat} {l : List Tch} (H : HP W0 w M) (gm : GM h G B M) (ht : t < h.nt) (hr : RepT (G.Rt t) l) (hi : i < l.length) :
    Calls Try.prog 30 #[.pointer (some ⟨B.gb, 0, none⟩), .int .i64 t, .int .i64 i] w fun x w' => x = .returned (tval (l.getD i (newT 0))) ∧ HP W0 w' M := by
  have hlen := hr.len
  obtain ⟨rb, hrb, hrv⟩ := H.rblkM gm.ft ht (by omega)
  have hc : ∀ k, k < 8 → w.cell? ⟨rb, i * 8 + k, none⟩ = some (cellsF (tcell (l.getD i (newT 0))) k) := fun k hk => (H.rcellM gm.ft ht hrb (i := i * 8 + k) (by omega)).trans (congrArg some (hr.c i k hi hk))
  refine calls_CE Try.func30 rfl Try.ntmps30 rfl rfl ?_
  refine CE_seq ?_
  refine CE_reg ?_
  refine EL_p (Pu_as rfl) rfl ?_
  refine EL_p (Pu_as rfl) rfl ?_
  refine EL_p (Pu_as rfl) rfl ?_
  refine EL_p (Pu_as rfl) rfl ?_
  refine EL_p (Pu_as rfl) rfl ?_
  refine EL_p (Pu_as rfl) rfl ?_
  refine EL_p (Pu_as rfl) rfl ?_
  refine EL_p (Pu_as rfl) rfl ?_
  refine EL_nil ?_
  refine CE_seq ?_
  refine CE_reg ?_
  refine EL_p (Pu_mv rfl) rfl ?_
  refine EL_p (Pu_nil rfl) rfl ?_
  refine EL_p (Pu_fld rfl fi65_4) rfl ?_
  first | (refine EL_ld rfl fl63 (H.cellM gm.g (by decide)) rfl ?_) | (refine EL_ld rfl fl63 (H.cellM gm.t ht) rfl ?_)
  refine EL_p (Pu_mv rfl) rfl ?_
  first | (refine EL_p (Pu_ix rfl rfl sl63 rfl ht) rfl ?_) | (refine EL_p (Pu_ixm (congrArg some (show hdr G.Rt t = _ from hrv)) rfl sl63 rfl (by omega)) rfl ?_)
  first | (refine EL_ld rfl fl66 (H.cellM gm.g (by decide)) rfl ?_) | (refine EL_ld rfl fl66 (H.cellM gm.t ht) rfl ?_)
  refine EL_p (Pu_mv rfl) rfl ?_
  first | (refine EL_p (Pu_ix rfl rfl sl66 rfl ht) rfl ?_) | (refine EL_p (Pu_ixm (congrArg some (show hdr G.Rt t = _ from hrv)) rfl sl66 rfl (by omega)) rfl ?_)
  refine EL_i (S := fun w' => w' = w) (Ld68 rfl (fun w' e => by rw [e]; exact hc 0 (by decide)) (fun w' e => by rw [e]; exact hc 1 (by decide)) (fun w' e => by rw [e]; exact hc 2 (by decide)) (fun w' e => by rw [e]; exact hc 3 (by decide)) (fun w' e => by rw [e]; exact hc 4 (by decide)) (fun w' e => by rw [e]; exact hc 5 (by decide)) (fun w' e => by rw [e]; exact hc 6 (by decide)) (fun w' e => by rw [e]; exact hc 7 (by decide))) rfl rfl ?_
  refine EL_L rfl (Lo_alloc H ze68 rfl (fun vb w1 H1 => ?_))
  refine EL_L0 (Lo_st68 (j := 0) H1 rfl rfl rfl rfl rfl rfl rfl rfl rfl rfl rfl (fun w2 H2 => ?_))
  refine EL_nil ?_
  refine CE_seq ?_
  refine CE_drawH H2 (fun w' => HP W0 w' (Blk vb 8 (cellsF [cellsF (tcell (l.getD i (newT 0))) 0, cellsF (tcell (l.getD i (newT 0))) 1, cellsF (tcell (l.getD i (newT 0))) 2, cellsF (tcell (l.getD i (newT 0))) 3, cellsF (tcell (l.getD i (newT 0))) 4, cellsF (tcell (l.getD i (newT 0))) 5, cellsF (tcell (l.getD i (newT 0))) 6, cellsF (tcell (l.getD i (newT 0))) 7]) :: M)) [(0, 0), (1, 0), (2, 0), (3, 0), (4, 0), (5, 0), (6, 0), (7, 0), (8, 0), (9, 0), (10, 0), (11, 0), (12, 0), (13, 0), (14, 0), (15, 0), (16, 0), (17, 0), (18, 0), (19, 0), (20, 0), (21, 0), (22, 0), (23, 0)] mixed rfl (by kernel_rfl) (fun w3 H3 => ?_)
  refine AO_p rfl H3 (Pu.toIf (Pu_fld rfl fi68_0)) rfl ?_
  refine AO_p rfl H3 (Ld rfl fl21 (fun w h => h.cell (j := 0) rfl (by decide))) rfl ?_
  refine AO_p rfl H3 (Pu.toIf (Pu_fld rfl fi68_1)) rfl ?_
  refine AO_p rfl H3 (Ld rfl fl21 (fun w h => h.cell (j := 0) rfl (by decide))) rfl ?_
  refine AO_p rfl H3 (Pu.toIf (Pu_fld rfl fi68_2)) rfl ?_
  refine AO_p rfl H3 (Ld rfl fl21 (fun w h => h.cell (j := 0) rfl (by decide))) rfl ?_
  refine AO_p rfl H3 (Pu.toIf (Pu_fld rfl fi68_3)) rfl ?_
  refine AO_p rfl H3 (Ld rfl fl21 (fun w h => h.cell (j := 0) rfl (by decide))) rfl ?_
  refine AO_p rfl H3 (Pu.toIf (Pu_fld rfl fi68_4)) rfl ?_
  refine AO_p rfl H3 (Ld rfl fl21 (fun w h => h.cell (j := 0) rfl (by decide))) rfl ?_
  refine AO_p rfl H3 (Pu.toIf (Pu_fld rfl fi68_5)) rfl ?_
  refine AO_p rfl H3 (Ld rfl fl4 (fun w h => h.cell (j := 0) rfl (by decide))) rfl ?_
  refine AO_p rfl H3 (Pu.toIf (Pu_fld rfl fi68_6)) rfl ?_
  refine AO_p rfl H3 (Ld rfl fl21 (fun w h => h.cell (j := 0) rfl (by decide))) rfl ?_
  refine AO_p rfl H3 (Pu.toIf (Pu_fld rfl fi68_7)) rfl ?_
  refine AO_p rfl H3 (Ld rfl fl4 (fun w h => h.cell (j := 0) rfl (by decide))) rfl ?_
  refine AO_p rfl H3 (Pu.toIf (Pu_as rfl)) rfl ?_
  refine AO_p rfl H3 (Pu.toIf (Pu_as rfl)) rfl ?_
  refine AO_p rfl H3 (Pu.toIf (Pu_as rfl)) rfl ?_
  refine AO_p rfl H3 (Pu.toIf (Pu_as rfl)) rfl ?_
  refine AO_p rfl H3 (Pu.toIf (Pu_as rfl)) rfl ?_
  refine AO_p rfl H3 (Pu.toIf (Pu_as rfl)) rfl ?_
  refine AO_p rfl H3 (Pu.toIf (Pu_as rfl)) rfl ?_
  refine AO_p rfl H3 (Pu.toIf (Pu_as rfl)) rfl ?_
  refine AO_nil ?_
  refine CE_ret ?_
  exact ⟨_, rfl, rfl, H3.tail⟩

theorem same34 {W0 w : World} {M : List Chunk} {m1 x1 m2 x2 : Nat} {R1 R2 : Nat → Row} {l : List Nat} (H : HP W0 w M) (f1 : Fam m1 1 21 R1 ∈ M) (f2 : Fam m2 1 21 R2 ∈ M) (h1 : x1 < m1) (h2 : x2 < m2) (r1 : RepI (R1 x1) l) (r2 : RepI (R2 x2) l) (hl : l.length ≤ 1000000000) :
    Calls Try.prog 34 #[(R1 x1).val, (R2 x2).val] w fun x w' => x = .returned (.bool true) ∧ HP W0 w' M := by
  have hl1 := r1.len
  have hl2 := r2.len
  refine calls_CE Try.func34 rfl Try.ntmps34 rfl rfl ?_
  refine CE_seq ?_
  refine CE_reg ?_
  refine EL_p (Pu_as rfl) rfl ?_
  refine EL_nil ?_
  refine CE_seq ?_
  refine CE_seq ?_
  refine CE_reg ?_
  refine EL_p (Pu_mv rfl) rfl ?_
  refine EL_p (Pu_len rfl sl24 rfl) rfl ?_
  refine EL_p (Pu_mv rfl) rfl ?_
  refine EL_p (Pu_len rfl sl24 rfl) rfl ?_
  refine EL_p (Pu_neq rfl rfl) rfl ?_
  refine EL_nil ?_
  refine CE_cN rfl (fun c10 => ?_) (fun c10 => ?_)
  · exact absurd (show ((R1 x1).len : Int) = ((R2 x2).len : Int) by omega) c10 --stop
  · refine CE_skip ?_
    refine CE_seq ?_
    refine CE_seq ?_
    refine CE_reg ?_
    refine EL_p (Pu_as rfl) rfl ?_
    refine EL_nil ?_
    refine CE_block ?_
    refine CE_loop (fun (i : Nat) w' => i ≤ l.length ∧ HP W0 w' M) (fun i => [(0, (R1 x1).val), (1, (R2 x2).val), (5, .int .i64 i)]) (fun i => l.length - i) 0 ⟨Nat.zero_le _, H⟩ ⟨rfl, rfl, rfl, trivial⟩ ?_
    rintro i w1 ⟨hi, H1⟩
    refine CE_seq ?_
    refine CE_seq ?_
    refine CE_reg ?_
    refine EL_p (Pu_mv rfl) rfl ?_
    refine EL_p (Pu_mv rfl) rfl ?_
    refine EL_p (Pu_len rfl sl24 rfl) rfl ?_
    refine EL_p (Pu_lss rfl rfl) rfl ?_
    refine EL_nil ?_
    refine CE_cP rfl (fun c14 => ?_) (fun c14 => ?_)
    · have hil : i < l.length := by omega
      obtain ⟨b1, hb1, hv1⟩ := H1.rblkM f1 h1 (by omega)
      obtain ⟨b2, hb2, hv2⟩ := H1.rblkM f2 h2 (by omega)
      refine CE_skip ?_
      refine CE_seq ?_
      refine CE_block ?_
      refine CE_seq ?_
      refine CE_drawH H1 (fun w' => HP W0 w' M) [(0, 0), (1, 0), (2, 0), (3, 0), (4, 0), (5, 0), (6, 0), (7, 0), (8, 0)] mixed rfl (by kernel_rfl) (fun w2 H2 => ?_)
      refine AO_p rfl H2 (Pu.toIf (Pu_mv rfl)) rfl ?_
      refine AO_p rfl H2 (Pu.toIf (Pu_mv rfl)) rfl ?_
      first | (refine AO_p rfl H2 (Pu.toIf (Pu_ix (congrArg some hv1) rfl sl24 rfl (by omega))) rfl ?_) | (refine AO_p rfl H2 (Pu.toIf (Pu_ix (congrArg some hv2) rfl sl24 rfl (by omega))) rfl ?_)
      first | (refine AO_p rfl H2 (Ld rfl fl21 (fun w h => (h.rcellM f1 h1 hb1 (i := i) (by omega)).trans (congrArg some (r1.c i hil)))) rfl ?_) | (refine AO_p rfl H2 (Ld rfl fl21 (fun w h => (h.rcellM f2 h2 hb2 (i := i) (by omega)).trans (congrArg some (r2.c i hil)))) rfl ?_)
      refine AO_p rfl H2 (Pu.toIf (Pu_mv rfl)) rfl ?_
      refine AO_p rfl H2 (Pu.toIf (Pu_mv rfl)) rfl ?_
      first | (refine AO_p rfl H2 (Pu.toIf (Pu_ix (congrArg some hv1) rfl sl24 rfl (by omega))) rfl ?_) | (refine AO_p rfl H2 (Pu.toIf (Pu_ix (congrArg some hv2) rfl sl24 rfl (by omega))) rfl ?_)
      first | (refine AO_p rfl H2 (Ld rfl fl21 (fun w h => (h.rcellM f1 h1 hb1 (i := i) (by omega)).trans (congrArg some (r1.c i hil)))) rfl ?_) | (refine AO_p rfl H2 (Ld rfl fl21 (fun w h => (h.rcellM f2 h2 hb2 (i := i) (by omega)).trans (congrArg some (r2.c i hil)))) rfl ?_)
      refine AO_p rfl H2 (Pu.toIf (Pu_neq rfl rfl)) rfl ?_
      refine AO_nil ?_
      refine CE_cN rfl (fun c25 => ?_) (fun c25 => ?_)
      · exact absurd rfl c25 --stop
      · refine CE_skip ?_
        refine CE_reg ?_
        refine EL_p (Pu_mv rfl) rfl ?_
        refine EL_p (Pu_add rfl rfl (w64 (by omega))) rfl ?_
        refine EL_p (Pu_as rfl) rfl ?_
        refine EL_nil ?_
        exact ⟨i + 1, by omega, ⟨rfl, rfl, rfl, trivial⟩, hil, H2⟩
    · refine CE_exit ?_
      refine CE_seq ?_
      refine CE_reg ?_
      refine EL_p (Pu_as rfl) rfl ?_
      refine EL_nil ?_
      refine CE_ret ?_
      exact ⟨_, rfl, rfl, H1⟩

theorem llw36 {W0 w : World} {M : List Chunk} {h : HRec} {G : GRows} {B : GB} {p x : Nat} (H : HP W0 w M) (gm : GM h G B M) (ho : HOK h) (hp : p < h.n) (hx : h.I p = (x : Nat)) :
    Calls Try.prog 36 #[aval B.z0 B.b0 h.n, aval h.zt h.bt h.n, aval h.zi h.bi h.n, aval h.za h.ba h.nt, .int .i64 p] w fun y w' => y = .returned (.int .i64 (llwF h x p)) ∧ HP W0 w' M := by
  have hon := ho.hn
  refine calls_CE Try.func36 rfl Try.ntmps36 rfl rfl ?_
  refine CE_seq ?_
  refine CE_reg ?_
  refine EL_p (Pu_as rfl) rfl ?_
  refine EL_nil ?_
  refine CE_seq ?_
  refine CE_seq ?_
  refine CE_reg ?_
  refine EL_p (Pu_mv rfl) rfl ?_
  refine EL_p (Pu_sub rfl rfl (w64 (by omega))) rfl ?_
  refine EL_p (Pu_as rfl) rfl ?_
  refine EL_nil ?_
  refine CE_block ?_
  refine CE_loop (fun (k : Nat) w' => k ≤ p ∧ llwF h x p = llwF h x k ∧ HP W0 w' M) (fun k => [(0, aval B.z0 B.b0 h.n), (1, aval h.zt h.bt h.n), (2, aval h.zi h.bi h.n), (3, aval h.za h.ba h.nt), (4, .int .i64 p), (11, .int .i64 ((k : Int) - 1))]) (fun k => k) p ⟨Nat.le_refl _, rfl, H⟩ ⟨rfl, rfl, rfl, rfl, rfl, rfl, trivial⟩ ?_
  rintro k w1 ⟨hk, hll, H1⟩
  refine CE_seq ?_
  refine CE_seq ?_
  refine CE_reg ?_
  refine EL_p (Pu_mv rfl) rfl ?_
  refine EL_p (Pu_geq rfl rfl) rfl ?_
  refine EL_nil ?_
  refine CE_cP rfl (fun c15 => ?_) (fun c15 => ?_)
  · obtain ⟨j, rfl⟩ : ∃ j, k = j + 1 := ⟨k - 1, by omega⟩
    have hj : ((j + 1 : Nat) : Int) - 1 = (j : Int) := by omega
    have hjn : j < h.n := by omega
    have hTj := (ho.ok j hjn).1
    have hstep : ¬ (lvB h j = true ∧ h.I j = x ∧ h.A j = 119) → llwF h x p = llwF h x j := fun hh => by rw [hll, llwF, if_neg hh]
    refine CE_skip ?_
    refine CE_seq ?_
    refine CE_block ?_
    refine CE_seq ?_
    refine CE_drawH H1 (fun w' => HP W0 w' M) [(0, 0), (1, 0), (2, 0), (3, 0), (4, 0), (5, 0), (6, 0), (7, 0), (8, 0), (9, 0), (10, 0), (11, 0), (12, 0), (13, 0), (14, 0), (15, 0), (16, 0), (17, 0), (18, 0), (19, 0), (20, 0), (21, 0), (22, 0), (23, 0), (24, 0), (25, 0)] mixed rfl (by kernel_rfl) (fun w2 H2 => ?_)
    refine AO_p rfl H2 (Pu.toIf (Pu_mv rfl)) rfl ?_
    refine AO_p rfl H2 (Pu.toIf (Pu_mv rfl)) rfl ?_
    first | (refine AO_p rfl H2 (Pu.toIf (Pu_ixA rfl rfl sl24 hj hjn (H2.anzM gm.inl.mi hjn))) rfl ?_) | (refine AO_p rfl H2 (Pu.toIf (Pu_ixA rfl rfl sl24 rfl hp (H2.anzM gm.inl.mi hp))) rfl ?_) | (refine AO_p rfl H2 (Pu.toIf (Pu_ixA rfl rfl sl24 hj hjn (H2.anzM gm.act hjn))) rfl ?_) | (refine AO_p rfl H2 (Pu.toIf (Pu_ixA rfl rfl sl24 hj hjn (H2.anzM gm.inl.mt hjn))) rfl ?_) | (refine AO_p rfl H2 (Pu.toIf (Pu_ixA rfl rfl sl24 rfl hTj (H2.anzM gm.inl.ma hTj))) rfl ?_)
    first | (refine AO_p rfl H2 (Ld rfl fl21 (fun w h => h.acellM gm.inl.mi hjn)) rfl ?_) | (refine AO_p rfl H2 (Ld rfl fl21 (fun w h => h.acellM gm.inl.mi hp)) rfl ?_) | (refine AO_p rfl H2 (Ld rfl fl21 (fun w h => h.acellM gm.act hjn)) rfl ?_) | (refine AO_p rfl H2 (Ld rfl fl21 (fun w h => h.acellM gm.inl.mt hjn)) rfl ?_) | (refine AO_p rfl H2 (Ld rfl fl21 (fun w h => h.acellM gm.inl.ma hTj)) rfl ?_)
    refine AO_p rfl H2 (Pu.toIf (Pu_mv rfl)) rfl ?_
    refine AO_p rfl H2 (Pu.toIf (Pu_mv rfl)) rfl ?_
    first | (refine AO_p rfl H2 (Pu.toIf (Pu_ixA rfl rfl sl24 hj hjn (H2.anzM gm.inl.mi hjn))) rfl ?_) | (refine AO_p rfl H2 (Pu.toIf (Pu_ixA rfl rfl sl24 rfl hp (H2.anzM gm.inl.mi hp))) rfl ?_) | (refine AO_p rfl H2 (Pu.toIf (Pu_ixA rfl rfl sl24 hj hjn (H2.anzM gm.act hjn))) rfl ?_) | (refine AO_p rfl H2 (Pu.toIf (Pu_ixA rfl rfl sl24 hj hjn (H2.anzM gm.inl.mt hjn))) rfl ?_) | (refine AO_p rfl H2 (Pu.toIf (Pu_ixA rfl rfl sl24 rfl hTj (H2.anzM gm.inl.ma hTj))) rfl ?_)
    first | (refine AO_p rfl H2 (Ld rfl fl21 (fun w h => h.acellM gm.inl.mi hjn)) rfl ?_) | (refine AO_p rfl H2 (Ld rfl fl21 (fun w h => h.acellM gm.inl.mi hp)) rfl ?_) | (refine AO_p rfl H2 (Ld rfl fl21 (fun w h => h.acellM gm.act hjn)) rfl ?_) | (refine AO_p rfl H2 (Ld rfl fl21 (fun w h => h.acellM gm.inl.mt hjn)) rfl ?_) | (refine AO_p rfl H2 (Ld rfl fl21 (fun w h => h.acellM gm.inl.ma hTj)) rfl ?_)
    refine AO_p rfl H2 (Pu.toIf (Pu_eql rfl rfl)) rfl ?_
    refine AO_p rfl H2 (Pu.toIf (Pu_mv rfl)) rfl ?_
    refine AO_gP rfl rfl rfl (fun g27 => ?_) (fun g27 => ?_)
    · refine AO_yes rfl rfl rfl H2 (Pu.toIf (Pu_mv rfl)) rfl ?_
      refine AO_yes rfl rfl rfl H2 (Pu.toIf (Pu_mv rfl)) rfl ?_
      first | (refine AO_yes rfl rfl rfl H2 (Pu.toIf (Pu_ixA rfl rfl sl22 hj hjn (H2.anzM gm.inl.mi hjn))) rfl ?_) | (refine AO_yes rfl rfl rfl H2 (Pu.toIf (Pu_ixA rfl rfl sl22 rfl hp (H2.anzM gm.inl.mi hp))) rfl ?_) | (refine AO_yes rfl rfl rfl H2 (Pu.toIf (Pu_ixA rfl rfl sl22 hj hjn (H2.anzM gm.act hjn))) rfl ?_) | (refine AO_yes rfl rfl rfl H2 (Pu.toIf (Pu_ixA rfl rfl sl22 hj hjn (H2.anzM gm.inl.mt hjn))) rfl ?_) | (refine AO_yes rfl rfl rfl H2 (Pu.toIf (Pu_ixA rfl rfl sl22 rfl hTj (H2.anzM gm.inl.ma hTj))) rfl ?_)
      first | (refine AO_yes rfl rfl rfl H2 (Ld rfl fl5 (fun w h => h.acellM gm.inl.mi hjn)) rfl ?_) | (refine AO_yes rfl rfl rfl H2 (Ld rfl fl5 (fun w h => h.acellM gm.inl.mi hp)) rfl ?_) | (refine AO_yes rfl rfl rfl H2 (Ld rfl fl5 (fun w h => h.acellM gm.act hjn)) rfl ?_) | (refine AO_yes rfl rfl rfl H2 (Ld rfl fl5 (fun w h => h.acellM gm.inl.mt hjn)) rfl ?_) | (refine AO_yes rfl rfl rfl H2 (Ld rfl fl5 (fun w h => h.acellM gm.inl.ma hTj)) rfl ?_)
      refine AO_yes rfl rfl rfl H2 (Pu.toIf (Pu_eql rfl rfl)) rfl ?_
      refine AO_p rfl H2 (Pu.toIf (Pu_pt rfl rfl)) rfl ?_
      refine AO_p rfl H2 (Pu.toIf (Pu_mv rfl)) rfl ?_
      refine AO_gP rfl rfl rfl (fun g34 => ?_) (fun g34 => ?_)
      · refine AO_yes rfl rfl rfl H2 (Pu.toIf (Pu_mv rfl)) rfl ?_
        refine AO_yes rfl rfl rfl H2 (Pu.toIf (Pu_mv rfl)) rfl ?_
        refine AO_yes rfl rfl rfl H2 (Pu.toIf (Pu_mv rfl)) rfl ?_
        first | (refine AO_yes rfl rfl rfl H2 (Pu.toIf (Pu_ixA rfl rfl sl24 hj hjn (H2.anzM gm.inl.mi hjn))) rfl ?_) | (refine AO_yes rfl rfl rfl H2 (Pu.toIf (Pu_ixA rfl rfl sl24 rfl hp (H2.anzM gm.inl.mi hp))) rfl ?_) | (refine AO_yes rfl rfl rfl H2 (Pu.toIf (Pu_ixA rfl rfl sl24 hj hjn (H2.anzM gm.act hjn))) rfl ?_) | (refine AO_yes rfl rfl rfl H2 (Pu.toIf (Pu_ixA rfl rfl sl24 hj hjn (H2.anzM gm.inl.mt hjn))) rfl ?_) | (refine AO_yes rfl rfl rfl H2 (Pu.toIf (Pu_ixA rfl rfl sl24 rfl hTj (H2.anzM gm.inl.ma hTj))) rfl ?_)
        first | (refine AO_yes rfl rfl rfl H2 (Ld rfl fl21 (fun w h => h.acellM gm.inl.mi hjn)) rfl ?_) | (refine AO_yes rfl rfl rfl H2 (Ld rfl fl21 (fun w h => h.acellM gm.inl.mi hp)) rfl ?_) | (refine AO_yes rfl rfl rfl H2 (Ld rfl fl21 (fun w h => h.acellM gm.act hjn)) rfl ?_) | (refine AO_yes rfl rfl rfl H2 (Ld rfl fl21 (fun w h => h.acellM gm.inl.mt hjn)) rfl ?_) | (refine AO_yes rfl rfl rfl H2 (Ld rfl fl21 (fun w h => h.acellM gm.inl.ma hTj)) rfl ?_)
        first | (refine AO_yes rfl rfl rfl H2 (Pu.toIf (Pu_ixA rfl rfl sl25 hj hjn (H2.anzM gm.inl.mi hjn))) rfl ?_) | (refine AO_yes rfl rfl rfl H2 (Pu.toIf (Pu_ixA rfl rfl sl25 rfl hp (H2.anzM gm.inl.mi hp))) rfl ?_) | (refine AO_yes rfl rfl rfl H2 (Pu.toIf (Pu_ixA rfl rfl sl25 hj hjn (H2.anzM gm.act hjn))) rfl ?_) | (refine AO_yes rfl rfl rfl H2 (Pu.toIf (Pu_ixA rfl rfl sl25 hj hjn (H2.anzM gm.inl.mt hjn))) rfl ?_) | (refine AO_yes rfl rfl rfl H2 (Pu.toIf (Pu_ixA rfl rfl sl25 rfl hTj (H2.anzM gm.inl.ma hTj))) rfl ?_)
        first | (refine AO_yes rfl rfl rfl H2 (Ld rfl fl4 (fun w h => h.acellM gm.inl.mi hjn)) rfl ?_) | (refine AO_yes rfl rfl rfl H2 (Ld rfl fl4 (fun w h => h.acellM gm.inl.mi hp)) rfl ?_) | (refine AO_yes rfl rfl rfl H2 (Ld rfl fl4 (fun w h => h.acellM gm.act hjn)) rfl ?_) | (refine AO_yes rfl rfl rfl H2 (Ld rfl fl4 (fun w h => h.acellM gm.inl.mt hjn)) rfl ?_) | (refine AO_yes rfl rfl rfl H2 (Ld rfl fl4 (fun w h => h.acellM gm.inl.ma hTj)) rfl ?_)
        refine AO_yes rfl rfl rfl H2 (Pu.toIf (Pu_not rfl)) rfl ?_
        refine AO_p rfl H2 (Pu.toIf (Pu_pt rfl rfl)) rfl ?_
        refine AO_nil ?_
        refine CE_cB rfl (fun c43 => ?_) (fun c43 => ?_)
        · refine CE_seq ?_
          refine CE_reg ?_
          refine EL_p (Pu_mv rfl) rfl ?_
          refine EL_p (Pu_as rfl) rfl ?_
          refine EL_nil ?_
          refine CE_ret ?_
          refine ⟨_, rfl, ?_, H2⟩
          have e : llwF h x p = ((j + 1 : Nat) : Int) - 1 := by
            rw [hll, llwF, if_pos ⟨lvB_yes (by omega) c43, by omega, g34⟩]; omega
          rw [e]; rfl
        · refine CE_skip ?_
          refine CE_reg ?_
          refine EL_p (Pu_mv rfl) rfl ?_
          refine EL_p (Pu_sub rfl rfl (w64 (by omega))) rfl ?_
          refine EL_p (Pu_as rfl) rfl ?_
          refine EL_nil ?_
          exact ⟨j, by omega, ⟨rfl, rfl, rfl, rfl, rfl, congrArg (fun z => some (Value.int .i64 z)) (show ((j + 1 : Nat) : Int) - 1 - 1 = (j : Int) - 1 by omega), trivial⟩, by omega, hstep (fun hh => by have := hh.1; rw [lvB_ab c43] at this; cases this), H2⟩
      · refine AO_no rfl rfl rfl rfl H2 rfl ?_
        refine AO_no rfl rfl rfl rfl H2 rfl ?_
        refine AO_no rfl rfl rfl rfl H2 rfl ?_
        refine AO_no rfl rfl rfl rfl H2 rfl ?_
        refine AO_no rfl rfl rfl rfl H2 rfl ?_
        refine AO_no rfl rfl rfl rfl H2 rfl ?_
        refine AO_no rfl rfl rfl rfl H2 rfl ?_
        refine AO_no rfl rfl rfl rfl H2 rfl ?_
        refine AO_p rfl H2 (Pu.toIf (Pu_pf rfl rfl)) rfl ?_
        refine AO_nil ?_
        refine CE_cond_f rfl ?_
        refine CE_skip ?_
        refine CE_reg ?_
        refine EL_p (Pu_mv rfl) rfl ?_
        refine EL_p (Pu_sub rfl rfl (w64 (by omega))) rfl ?_
        refine EL_p (Pu_as rfl) rfl ?_
        refine EL_nil ?_
        exact ⟨j, by omega, ⟨rfl, rfl, rfl, rfl, rfl, congrArg (fun z => some (Value.int .i64 z)) (show ((j + 1 : Nat) : Int) - 1 - 1 = (j : Int) - 1 by omega), trivial⟩, by omega, hstep (fun hh => g34 hh.2.2), H2⟩
    · refine AO_no rfl rfl rfl rfl H2 rfl ?_
      refine AO_no rfl rfl rfl rfl H2 rfl ?_
      refine AO_no rfl rfl rfl rfl H2 rfl ?_
      refine AO_no rfl rfl rfl rfl H2 rfl ?_
      refine AO_no rfl rfl rfl rfl H2 rfl ?_
      refine AO_p rfl H2 (Pu.toIf (Pu_pf rfl rfl)) rfl ?_
      refine AO_p rfl H2 (Pu.toIf (Pu_mv rfl)) rfl ?_
      refine AO_no rfl rfl rfl rfl H2 rfl ?_
      refine AO_no rfl rfl rfl rfl H2 rfl ?_
      refine AO_no rfl rfl rfl rfl H2 rfl ?_
      refine AO_no rfl rfl rfl rfl H2 rfl ?_
      refine AO_no rfl rfl rfl rfl H2 rfl ?_
      refine AO_no rfl rfl rfl rfl H2 rfl ?_
      refine AO_no rfl rfl rfl rfl H2 rfl ?_
      refine AO_no rfl rfl rfl rfl H2 rfl ?_
      refine AO_p rfl H2 (Pu.toIf (Pu_pf rfl rfl)) rfl ?_
      refine AO_nil ?_
      refine CE_cond_f rfl ?_
      refine CE_skip ?_
      refine CE_reg ?_
      refine EL_p (Pu_mv rfl) rfl ?_
      refine EL_p (Pu_sub rfl rfl (w64 (by omega))) rfl ?_
      refine EL_p (Pu_as rfl) rfl ?_
      refine EL_nil ?_
      exact ⟨j, by omega, ⟨rfl, rfl, rfl, rfl, rfl, congrArg (fun z => some (Value.int .i64 z)) (show ((j + 1 : Nat) : Int) - 1 - 1 = (j : Int) - 1 by omega), trivial⟩, by omega, hstep (fun hh => g27 (by rw [hh.2.1, hx])), H2⟩
  · refine CE_exit ?_
    refine CE_seq ?_
    refine CE_reg ?_
    refine EL_p (Pu_as rfl) rfl ?_
    refine EL_nil ?_
    refine CE_ret ?_
    have hk0 : k = 0 := by omega
    subst hk0
    refine ⟨_, rfl, ?_, H1⟩
    rw [hll]; rfl

structure MP where
  p : Nat
  m : MS

theorem oneT_yes {h : HRec} {t x p : Nat} (hl : lvB h p = true) (ht : h.T p = t) (hx : h.I p = (x : Nat)) : oneT h t x (p + 1) = some (opT h p ((oneT h t x p).getD (newT x))) := by
  rw [oneT, if_pos ⟨hl, ht, itm_eq hx⟩]
theorem oneT_no {h : HRec} {t x p : Nat} (hh : ¬ (lvB h p = true ∧ h.T p = t ∧ h.I p = (x : Nat))) : oneT h t x (p + 1) = oneT h t x p := by
  have h2 : ¬ (lvB h p = true ∧ h.T p = t ∧ itm h p = x) := fun h3 => by
    refine hh ⟨h3.1, h3.2.1, ?_⟩
    have h4 : 0 ≤ h.I p := by
      have := h3.1
      unfold lvB at this
      simp at this
      exact this.1
    have h5 := h3.2.2
    unfold itm at h5
    omega
  rw [oneT, if_neg h2]

set_option maxHeartbeats 1000000 in
theorem model37 {W0 w : World} {M : List Chunk} {h : HRec} {G : GRows} {B : GB} {t x : Nat} {c : Tch} (H : HP W0 w M) (gm : GM h G B M) (ho : HOK h) (ht : t < h.nt) (hxm : x < h.m) (hc : oneT h t x h.n = some c) (hci : c.item = x) :
    Calls Try.prog 37 #[aval B.z0 B.b0 h.n, aval h.zt h.bt h.n, aval h.zi h.bi h.n, aval h.za h.ba h.nt, .int .i32 t, .int .i32 x] w fun y w' => y = .returned (.tuple #[.int .i32 (finT h c).sa, .int .i32 (finT h c).sw, .int .i32 (finT h c).pa, .int .i32 (finT h c).pw, .bool (finT h c).rf, .int .i32 (finT h c).fr, .bool (finT h c).fs]) ∧ HP W0 w' M := by
  have hon := ho.hn
  have hont := ho.hnt
  have hom := ho.hm
  refine calls_CE Try.func37 rfl Try.ntmps37 rfl rfl ?_
  refine CE_seq ?_
  refine CE_reg ?_
  refine EL_p (Pu_as rfl) rfl ?_
  refine EL_p (Pu_as rfl) rfl ?_
  refine EL_p (Pu_as rfl) rfl ?_
  refine EL_p (Pu_as rfl) rfl ?_
  refine EL_p (Pu_as rfl) rfl ?_
  refine EL_p (Pu_as rfl) rfl ?_
  refine EL_p (Pu_as rfl) rfl ?_
  refine EL_nil ?_
  refine CE_seq ?_
  refine CE_reg ?_
  refine EL_p (Pu_mv rfl) rfl ?_
  refine EL_p (Pu_len rfl sl22 rfl) rfl ?_
  refine EL_p (Pu_as rfl) rfl ?_
  refine EL_nil ?_
  refine CE_seq ?_
  refine CE_reg ?_
  refine EL_p (Pu_as rfl) rfl ?_
  refine EL_nil ?_
  refine CE_seq ?_
  refine CE_reg ?_
  refine EL_p (Pu_as rfl) rfl ?_
  refine EL_nil ?_
  refine CE_seq ?_
  refine CE_reg ?_
  refine EL_p (Pu_as rfl) rfl ?_
  refine EL_p (Pu_as rfl) rfl ?_
  refine EL_p (Pu_as rfl) rfl ?_
  refine EL_p (Pu_as rfl) rfl ?_
  refine EL_nil ?_
  refine CE_seq ?_
  refine CE_reg ?_
  refine EL_p (Pu_as rfl) rfl ?_
  refine EL_nil ?_
  refine CE_seq ?_
  refine CE_reg ?_
  refine EL_p (Pu_as rfl) rfl ?_
  refine EL_nil ?_
  refine CE_seq ?_
  refine CE_reg ?_
  refine EL_p (Pu_as rfl) rfl ?_
  refine EL_nil ?_
  refine CE_seq ?_
  refine CE_seq ?_
  refine CE_reg ?_
  refine EL_p (Pu_as rfl) rfl ?_
  refine EL_nil ?_
  refine CE_block ?_
  refine CE_loop (fun (s : MP) w' => s.p ≤ h.n ∧ MRel (oneT h t x s.p) s.m ∧ s.m.fw ≤ 4096 ∧ HP W0 w' M) (fun s => [(0, aval B.z0 B.b0 h.n), (1, aval h.zt h.bt h.n), (2, aval h.zi h.bi h.n), (3, aval h.za h.ba h.nt), (4, .int .i32 t), (5, .int .i32 x), (19, .int .i64 h.n), (20, .int .i32 ((accF h x s.p).length)), (21, .int .i32 ((wrsF h x s.p).length)), (28, .int .i64 s.p), (22, .int .i32 (s.m).fw), (23, .int .i32 (s.m).lw), (24, .int .i32 (s.m).fr), (25, .int .i32 (s.m).lr), (26, .bool (s.m).sn), (27, .int .i32 (s.m).fsrc), (16, .bool (s.m).rf), (17, .int .i32 (s.m).frm), (18, .bool (s.m).fs)]) (fun s => h.n - s.p) ⟨0, ms0⟩ ⟨Nat.zero_le _, rfl, (by decide), H⟩ ⟨rfl, rfl, rfl, rfl, rfl, rfl, rfl, rfl, rfl, rfl, rfl, rfl, rfl, rfl, rfl, rfl, rfl, rfl, rfl, trivial⟩ ?_
  rintro s w1 ⟨hp, hm, hfb, H1⟩
  have hna := accF_length h x s.p
  have hnw := wrsF_length h x s.p
  refine CE_seq ?_
  refine CE_seq ?_
  refine CE_reg ?_
  refine EL_p (Pu_mv rfl) rfl ?_
  refine EL_p (Pu_mv rfl) rfl ?_
  refine EL_p (Pu_lss rfl rfl) rfl ?_
  refine EL_nil ?_
  refine CE_cP rfl (fun c35 => ?_) (fun c35 => ?_)
  · have hlt : s.p < h.n := by omega
    have hTp := (ho.ok s.p hlt).1
    have hok := (ho.ok s.p hlt).2
    have hsame : ¬ (lvB h s.p = true ∧ h.I s.p = (x : Nat)) → (accF h x (s.p + 1) = accF h x s.p ∧ wrsF h x (s.p + 1) = wrsF h x s.p ∧ oneT h t x (s.p + 1) = oneT h t x s.p) := fun hh => ⟨by rw [accF, if_neg hh], by rw [wrsF, if_neg (fun h2 => hh ⟨h2.1, h2.2.1⟩)], oneT_no (fun h2 => hh ⟨h2.1, h2.2.2⟩)⟩
    refine CE_skip ?_
    refine CE_seq ?_
    refine CE_block ?_
    refine CE_seq ?_
    refine CE_seq ?_
    refine CE_reg ?_
    refine EL_p (Pu_mv rfl) rfl ?_
    refine EL_p (Pu_mv rfl) rfl ?_
    first | (refine EL_p (Pu_ixA rfl rfl sl24 rfl hlt (H1.anzM gm.inl.mi hlt)) rfl ?_) | (refine EL_p (Pu_ixA rfl rfl sl24 rfl hlt (H1.anzM gm.inl.mt hlt)) rfl ?_) | (refine EL_p (Pu_ixA rfl rfl sl24 rfl hTp (H1.anzM gm.inl.ma hTp)) rfl ?_)
    first | (refine EL_ld rfl fl21 (H1.acellM gm.inl.mi hlt) rfl ?_) | (refine EL_ld rfl fl21 (H1.acellM gm.inl.mt hlt) rfl ?_) | (refine EL_ld rfl fl21 (H1.acellM gm.inl.ma hTp) rfl ?_)
    refine EL_p (Pu_mv rfl) rfl ?_
    refine EL_p (Pu_neq rfl rfl) rfl ?_
    refine EL_p (Pu_mv rfl) rfl ?_
    refine EL_gN rfl rfl (fun g44 => ?_) (fun g44 => ?_)
    · refine EL_no rfl rfl rfl rfl ?_
      refine EL_no rfl rfl rfl rfl ?_
      refine EL_no rfl rfl rfl rfl ?_
      refine EL_no rfl rfl rfl rfl ?_
      refine EL_no rfl rfl rfl rfl ?_
      refine EL_no rfl rfl rfl rfl ?_
      refine EL_no rfl rfl rfl rfl ?_
      refine EL_p (Pu_pt rfl rfl) rfl ?_
      refine EL_nil ?_
      refine CE_cond_t rfl ?_
      refine CE_exit ?_
      refine CE_reg ?_
      refine EL_p (Pu_mv rfl) rfl ?_
      refine EL_p (Pu_add rfl rfl (w64 (by omega))) rfl ?_
      refine EL_p (Pu_as rfl) rfl ?_
      refine EL_nil ?_
      obtain ⟨e1, e2, e3⟩ := hsame (fun hh => g44 hh.2)
      refine ⟨⟨s.p + 1, s.m⟩, by dsimp only; omega, ⟨rfl, rfl, rfl, rfl, rfl, rfl, rfl, congrArg (fun z => some (Value.int .i32 z)) (by rw [e1]), congrArg (fun z => some (Value.int .i32 z)) (by rw [e2]), rfl, rfl, rfl, rfl, rfl, rfl, rfl, rfl, rfl, rfl, trivial⟩, hlt, ?_, hfb, H1⟩
      rw [e3]; exact hm
    · refine EL_yes rfl rfl ?_
      refine EL_p (Pu_mv rfl) rfl ?_
      refine EL_yes rfl rfl ?_
      refine EL_p (Pu_mv rfl) rfl ?_
      refine EL_yes rfl rfl ?_
      refine EL_p (Pu_mv rfl) rfl ?_
      refine EL_yes rfl rfl ?_
      first | (refine EL_p (Pu_ixA rfl rfl sl24 rfl hlt (H1.anzM gm.inl.mi hlt)) rfl ?_) | (refine EL_p (Pu_ixA rfl rfl sl24 rfl hlt (H1.anzM gm.inl.mt hlt)) rfl ?_) | (refine EL_p (Pu_ixA rfl rfl sl24 rfl hTp (H1.anzM gm.inl.ma hTp)) rfl ?_)
      refine EL_yes rfl rfl ?_
      first | (refine EL_ld rfl fl21 (H1.acellM gm.inl.mi hlt) rfl ?_) | (refine EL_ld rfl fl21 (H1.acellM gm.inl.mt hlt) rfl ?_) | (refine EL_ld rfl fl21 (H1.acellM gm.inl.ma hTp) rfl ?_)
      refine EL_yes rfl rfl ?_
      first | (refine EL_p (Pu_ixA rfl rfl sl25 rfl hlt (H1.anzM gm.inl.mi hlt)) rfl ?_) | (refine EL_p (Pu_ixA rfl rfl sl25 rfl hlt (H1.anzM gm.inl.mt hlt)) rfl ?_) | (refine EL_p (Pu_ixA rfl rfl sl25 rfl hTp (H1.anzM gm.inl.ma hTp)) rfl ?_)
      refine EL_yes rfl rfl ?_
      first | (refine EL_ld rfl fl4 (H1.acellM gm.inl.mi hlt) rfl ?_) | (refine EL_ld rfl fl4 (H1.acellM gm.inl.mt hlt) rfl ?_) | (refine EL_ld rfl fl4 (H1.acellM gm.inl.ma hTp) rfl ?_)
      refine EL_p (Pu_pf rfl rfl) rfl ?_
      refine EL_nil ?_
      refine CE_cond rfl (fun c52 => ?_) (fun c52 => ?_)
      · refine CE_exit ?_
        refine CE_reg ?_
        refine EL_p (Pu_mv rfl) rfl ?_
        refine EL_p (Pu_add rfl rfl (w64 (by omega))) rfl ?_
        refine EL_p (Pu_as rfl) rfl ?_
        refine EL_nil ?_
        obtain ⟨e1, e2, e3⟩ := hsame (fun hh => by have := hh.1; rw [lvB_ab c52] at this; cases this)
        refine ⟨⟨s.p + 1, s.m⟩, by dsimp only; omega, ⟨rfl, rfl, rfl, rfl, rfl, rfl, rfl, congrArg (fun z => some (Value.int .i32 z)) (by rw [e1]), congrArg (fun z => some (Value.int .i32 z)) (by rw [e2]), rfl, rfl, rfl, rfl, rfl, rfl, rfl, rfl, rfl, rfl, trivial⟩, hlt, ?_, hfb, H1⟩
        rw [e3]; exact hm
      · have hx : h.I s.p = (x : Nat) := g44
        have hl := lvB_yes (show 0 ≤ h.I s.p by omega) c52
        have hA : h.A s.p = 114 ∨ h.A s.p = 119 := by omega
        have ea : (accF h x (s.p + 1)).length = (accF h x s.p).length + 1 := by rw [accF, if_pos ⟨hl, hx⟩]; simp
        refine CE_skip ?_
        refine CE_midG (fun (m' : MS) => [(0, aval B.z0 B.b0 h.n), (1, aval h.zt h.bt h.n), (2, aval h.zi h.bi h.n), (3, aval h.za h.ba h.nt), (4, .int .i32 t), (5, .int .i32 x), (19, .int .i64 h.n), (20, .int .i32 ((accF h x s.p).length)), (21, .int .i32 ((wrsF h x s.p).length)), (28, .int .i64 s.p), (22, .int .i32 (m').fw), (23, .int .i32 (m').lw), (24, .int .i32 (m').fr), (25, .int .i32 (m').lr), (26, .bool (m').sn), (27, .int .i32 (m').fsrc), (16, .bool (m').rf), (17, .int .i32 (m').frm), (18, .bool (m').fs)]) (fun m' w' => MRel (oneT h t x (s.p + 1)) m' ∧ m'.fw ≤ 4096 ∧ HP W0 w' M) ?_ (fun m' w2 hmid => ?_)
        · refine CE_seq ?_
          refine CE_reg ?_
          refine EL_p (Pu_mv rfl) rfl ?_
          refine EL_p (Pu_mv rfl) rfl ?_
          refine EL_p (Pu_ixA rfl rfl sl24 rfl hlt (H1.anzM gm.inl.mt hlt)) rfl ?_
          refine EL_ld rfl fl21 (H1.acellM gm.inl.mt hlt) rfl ?_
          refine EL_p (Pu_mv rfl) rfl ?_
          refine EL_p (Pu_eql rfl rfl) rfl ?_
          refine EL_nil ?_
          refine CE_cP rfl (fun c58 => ?_) (fun c58 => ?_)
          · have hTt : h.T s.p = t := by omega
            have hone := oneT_yes hl hTt hx
            refine CE_midG (fun (rf' : Bool) => [(0, aval B.z0 B.b0 h.n), (1, aval h.zt h.bt h.n), (2, aval h.zi h.bi h.n), (3, aval h.za h.ba h.nt), (4, .int .i32 t), (5, .int .i32 x), (19, .int .i64 h.n), (20, .int .i32 ((accF h x s.p).length)), (21, .int .i32 ((wrsF h x s.p).length)), (28, .int .i64 s.p), (22, .int .i32 s.m.fw), (23, .int .i32 s.m.lw), (24, .int .i32 s.m.fr), (25, .int .i32 s.m.lr), (26, .bool true), (27, .int .i32 s.m.fsrc), (16, .bool rf'), (17, .int .i32 s.m.frm), (18, .bool s.m.fs)]) (fun rf' w' => rf' = (if s.m.sn = true then s.m.rf else decide (h.A s.p = 114)) ∧ HP W0 w' M) ?_ (fun rf' w3 hmid => ?_)
            · refine CE_seq ?_
              refine CE_reg ?_
              refine EL_p (Pu_mv rfl) rfl ?_
              refine EL_p (Pu_not rfl) rfl ?_
              refine EL_nil ?_
              refine CE_cB rfl (fun c60 => ?_) (fun c60 => ?_)
              · refine CE_seq ?_
                refine CE_reg ?_
                refine EL_p (Pu_as rfl) rfl ?_
                refine EL_nil ?_
                refine CE_reg ?_
                refine EL_p (Pu_mv rfl) rfl ?_
                refine EL_p (Pu_mv rfl) rfl ?_
                refine EL_p (Pu_ixA rfl rfl sl22 rfl hlt (H1.anzM gm.act hlt)) rfl ?_
                refine EL_ld rfl fl5 (H1.acellM gm.act hlt) rfl ?_
                refine EL_p (Pu_eql rfl rfl) rfl ?_
                refine EL_p (Pu_as rfl) rfl ?_
                refine EL_nil ?_
                exact ⟨_, ⟨(if_neg (by rw [c60]; exact Bool.false_ne_true)).symm, H1⟩, rfl, rfl, rfl, rfl, rfl, rfl, rfl, rfl, rfl, rfl, rfl, rfl, rfl, rfl, rfl, rfl, rfl, rfl, rfl, trivial⟩
              · refine CE_skip ?_
                exact ⟨s.m.rf, ⟨(if_pos c60).symm, H1⟩, rfl, rfl, rfl, rfl, rfl, rfl, rfl, rfl, rfl, rfl, rfl, rfl, rfl, rfl, congrArg (fun z => some (Value.bool z)) c60, rfl, rfl, rfl, rfl, trivial⟩
            obtain ⟨hrf, H2⟩ := hmid
            refine CE_midG (fun (f2 : Int × Int) => [(0, aval B.z0 B.b0 h.n), (1, aval h.zt h.bt h.n), (2, aval h.zi h.bi h.n), (3, aval h.za h.ba h.nt), (4, .int .i32 t), (5, .int .i32 x), (19, .int .i64 h.n), (20, .int .i32 ((accF h x s.p).length)), (21, .int .i32 ((wrsF h x s.p).length)), (28, .int .i64 s.p), (22, .int .i32 f2.1), (23, .int .i32 f2.2), (24, .int .i32 s.m.fr), (25, .int .i32 s.m.lr), (26, .bool true), (27, .int .i32 s.m.fsrc), (16, .bool rf'), (17, .int .i32 s.m.frm), (18, .bool s.m.fs)]) (fun f2 w' => (h.A s.p = 119 → f2.1 = (if s.m.fw < 0 then ((accF h x s.p).length : Int) else s.m.fw) ∧ f2.2 = ((accF h x s.p).length : Int)) ∧ (¬ h.A s.p = 119 → f2.1 = s.m.fw ∧ f2.2 = s.m.lw) ∧ HP W0 w' M) ?_ (fun f2 w4 hmid => ?_)
            · refine CE_seq ?_
              refine CE_reg ?_
              refine EL_p (Pu_mv rfl) rfl ?_
              refine EL_p (Pu_mv rfl) rfl ?_
              refine EL_p (Pu_ixA rfl rfl sl22 rfl hlt (H2.anzM gm.act hlt)) rfl ?_
              refine EL_ld rfl fl5 (H2.acellM gm.act hlt) rfl ?_
              refine EL_p (Pu_eql rfl rfl) rfl ?_
              refine EL_nil ?_
              refine CE_cP rfl (fun c70 => ?_) (fun c70 => ?_)
              · refine CE_seq ?_
                refine CE_seq ?_
                refine CE_reg ?_
                refine EL_p (Pu_mv rfl) rfl ?_
                refine EL_p (Pu_lss rfl rfl) rfl ?_
                refine EL_nil ?_
                refine CE_cP rfl (fun c72 => ?_) (fun c72 => ?_)
                · refine CE_reg ?_
                  refine EL_p (Pu_mv rfl) rfl ?_
                  refine EL_p (Pu_as rfl) rfl ?_
                  refine EL_nil ?_
                  refine CE_reg ?_
                  refine EL_p (Pu_mv rfl) rfl ?_
                  refine EL_p (Pu_as rfl) rfl ?_
                  refine EL_nil ?_
                  exact ⟨(((accF h x s.p).length : Int), ((accF h x s.p).length : Int)), ⟨fun _ => ⟨(if_pos c72).symm, rfl⟩, fun hh => absurd c70 hh, H2⟩, rfl, rfl, rfl, rfl, rfl, rfl, rfl, rfl, rfl, rfl, rfl, rfl, rfl, rfl, rfl, rfl, rfl, rfl, rfl, trivial⟩
                · refine CE_skip ?_
                  refine CE_reg ?_
                  refine EL_p (Pu_mv rfl) rfl ?_
                  refine EL_p (Pu_as rfl) rfl ?_
                  refine EL_nil ?_
                  exact ⟨(s.m.fw, ((accF h x s.p).length : Int)), ⟨fun _ => ⟨(if_neg c72).symm, rfl⟩, fun hh => absurd c70 hh, H2⟩, rfl, rfl, rfl, rfl, rfl, rfl, rfl, rfl, rfl, rfl, rfl, rfl, rfl, rfl, rfl, rfl, rfl, rfl, rfl, trivial⟩
              · refine CE_skip ?_
                exact ⟨(s.m.fw, s.m.lw), ⟨fun hh => absurd hh c70, fun _ => ⟨rfl, rfl⟩, H2⟩, rfl, rfl, rfl, rfl, rfl, rfl, rfl, rfl, rfl, rfl, rfl, rfl, rfl, rfl, rfl, rfl, rfl, rfl, rfl, trivial⟩
            obtain ⟨hfw1, hfw2, H3⟩ := hmid
            refine CE_seq ?_
            refine CE_reg ?_
            refine EL_p (Pu_mv rfl) rfl ?_
            refine EL_p (Pu_mv rfl) rfl ?_
            refine EL_p (Pu_ixA rfl rfl sl22 rfl hlt (H3.anzM gm.act hlt)) rfl ?_
            refine EL_ld rfl fl5 (H3.acellM gm.act hlt) rfl ?_
            refine EL_p (Pu_eql rfl rfl) rfl ?_
            refine EL_nil ?_
            refine CE_cP rfl (fun c79 => ?_) (fun c79 => ?_)
            · have hA3 : ¬ h.A s.p = 119 := by omega
              obtain ⟨g1, g2⟩ := hfw2 hA3
              refine CE_midG (fun (fr' : Int) => [(0, aval B.z0 B.b0 h.n), (1, aval h.zt h.bt h.n), (2, aval h.zi h.bi h.n), (3, aval h.za h.ba h.nt), (4, .int .i32 t), (5, .int .i32 x), (19, .int .i64 h.n), (20, .int .i32 ((accF h x s.p).length)), (21, .int .i32 ((wrsF h x s.p).length)), (28, .int .i64 s.p), (22, .int .i32 s.m.fw), (23, .int .i32 s.m.lw), (24, .int .i32 fr'), (25, .int .i32 s.m.lr), (26, .bool true), (27, .int .i32 s.m.fsrc), (16, .bool rf'), (17, .int .i32 s.m.frm), (18, .bool s.m.fs)]) (fun fr' w' => fr' = (if s.m.fr < 0 then ((wrsF h x s.p).length : Int) else s.m.fr) ∧ HP W0 w' M) ?_ (fun fr' w5 hmid => ?_)
              · refine CE_seq ?_
                refine CE_reg ?_
                refine EL_p (Pu_mv rfl) rfl ?_
                refine EL_p (Pu_lss rfl rfl) rfl ?_
                refine EL_nil ?_
                refine CE_cP rfl (fun c81 => ?_) (fun c81 => ?_)
                · refine CE_reg ?_
                  refine EL_p (Pu_mv rfl) rfl ?_
                  refine EL_p (Pu_as rfl) rfl ?_
                  refine EL_nil ?_
                  exact ⟨((wrsF h x s.p).length : Int), ⟨(if_pos c81).symm, H3⟩, rfl, rfl, rfl, rfl, rfl, rfl, rfl, rfl, rfl, rfl, congrArg (fun z => some (Value.int .i32 z)) (g1), congrArg (fun z => some (Value.int .i32 z)) (g2), rfl, rfl, rfl, rfl, rfl, rfl, rfl, trivial⟩
                · refine CE_skip ?_
                  exact ⟨s.m.fr, ⟨(if_neg c81).symm, H3⟩, rfl, rfl, rfl, rfl, rfl, rfl, rfl, rfl, rfl, rfl, congrArg (fun z => some (Value.int .i32 z)) (g1), congrArg (fun z => some (Value.int .i32 z)) (g2), rfl, rfl, rfl, rfl, rfl, rfl, rfl, trivial⟩
              obtain ⟨hfr, H4⟩ := hmid
              refine CE_seq ?_
              refine CE_reg ?_
              refine EL_p (Pu_mv rfl) rfl ?_
              refine EL_p (Pu_as rfl) rfl ?_
              refine EL_nil ?_
              refine CE_seq ?_
              refine CE_reg ?_
              refine EL_p (Pu_mv rfl) rfl ?_
              refine EL_p (Pu_mv rfl) rfl ?_
              refine EL_p (Pu_mv rfl) rfl ?_
              refine EL_p (Pu_mv rfl) rfl ?_
              refine EL_p (Pu_mv rfl) rfl ?_
              refine EL_L rfl (Lo_call ca36 rfl ((llw36 H4 gm ho hlt hx).mono (fun y w6 hh => ⟨_, hh.1, ?_⟩)))
              have H5 := hh.2
              have hlr := llwF_rng h x s.p
              have hwl := wrtF_llw h x s.p
              refine EL_p (Pu_as rfl) rfl ?_
              refine EL_nil ?_
              refine CE_seq ?_
              refine CE_reg ?_
              refine EL_p (Pu_as rfl) rfl ?_
              refine EL_nil ?_
              refine CE_midG (fun (src : Int) => [(0, aval B.z0 B.b0 h.n), (1, aval h.zt h.bt h.n), (2, aval h.zi h.bi h.n), (3, aval h.za h.ba h.nt), (4, .int .i32 t), (5, .int .i32 x), (19, .int .i64 h.n), (20, .int .i32 ((accF h x s.p).length)), (21, .int .i32 ((wrsF h x s.p).length)), (28, .int .i64 s.p), (22, .int .i32 s.m.fw), (23, .int .i32 s.m.lw), (24, .int .i32 fr'), (25, .int .i32 (wrsF h x s.p).length), (26, .bool true), (27, .int .i32 s.m.fsrc), (16, .bool rf'), (17, .int .i32 s.m.frm), (18, .bool s.m.fs), (30, .int .i32 src)]) (fun src w' => src = wrtF h x s.p ∧ HP W0 w' M) ?_ (fun src w7 hmid => ?_)
              · refine CE_seq ?_
                refine CE_reg ?_
                refine EL_p (Pu_mv rfl) rfl ?_
                refine EL_p (Pu_geq rfl rfl) rfl ?_
                refine EL_nil ?_
                refine CE_cP rfl (fun c91 => ?_) (fun c91 => ?_)
                · obtain ⟨q, hq, hqe⟩ : ∃ q, q < s.p ∧ llwF h x s.p = (q : Nat) := by
                    rcases hlr with h1 | h1
                    · omega
                    · exact h1
                  have hqn : q < h.n := by omega
                  refine CE_reg ?_
                  refine EL_p (Pu_mv rfl) rfl ?_
                  refine EL_p (Pu_mv rfl) rfl ?_
                  refine EL_p (Pu_ixA rfl rfl sl24 hqe hqn (H5.anzM gm.inl.mt hqn)) rfl ?_
                  refine EL_ld rfl fl21 (H5.acellM gm.inl.mt hqn) rfl ?_
                  refine EL_p (Pu_as rfl) rfl ?_
                  refine EL_nil ?_
                  exact ⟨(h.T q : Int), ⟨by rw [hwl, if_neg (by omega), hqe]; rfl, H5⟩, rfl, rfl, rfl, rfl, rfl, rfl, rfl, rfl, rfl, rfl, rfl, rfl, rfl, rfl, rfl, rfl, rfl, rfl, rfl, rfl, trivial⟩
                · refine CE_skip ?_
                  exact ⟨-1, ⟨by rw [hwl, if_pos (by omega)], H5⟩, rfl, rfl, rfl, rfl, rfl, rfl, rfl, rfl, rfl, rfl, rfl, rfl, rfl, rfl, rfl, rfl, rfl, rfl, rfl, rfl, trivial⟩
              obtain ⟨hsrc, H6⟩ := hmid
              have hge : -1 ≤ wrtF h x s.p := by
                rcases wrtF_rng ho x s.p hp with h1 | ⟨_, _, h1⟩ <;> omega
              have hop : opT h s.p = rdT (wrsF h x s.p).length (wrtF h x s.p) t := by unfold opT; rw [if_neg hA3, itm_eq hx, hTt]
              have hmr : MRel (oneT h t x (s.p + 1)) (msR (wrsF h x s.p).length src t s.m) := by rw [hone, hop, hsrc]; exact hm.read hge
              have hrf2 : rf' = (msR (wrsF h x s.p).length src t s.m).rf := by
                show rf' = if s.m.sn = true then s.m.rf else true
                rw [hrf, decide_eq_true c79]
              refine CE_seq ?_
              refine CE_reg ?_
              refine EL_p (Pu_mv rfl) rfl ?_
              refine EL_p (Pu_mv rfl) rfl ?_
              refine EL_p (Pu_neq rfl rfl) rfl ?_
              refine EL_nil ?_
              refine CE_cN rfl (fun c98 => ?_) (fun c98 => ?_)
              · refine CE_midG (fun (f3 : Int × Bool) => [(0, aval B.z0 B.b0 h.n), (1, aval h.zt h.bt h.n), (2, aval h.zi h.bi h.n), (3, aval h.za h.ba h.nt), (4, .int .i32 t), (5, .int .i32 x), (19, .int .i64 h.n), (20, .int .i32 ((accF h x s.p).length)), (21, .int .i32 ((wrsF h x s.p).length)), (28, .int .i64 s.p), (22, .int .i32 s.m.fw), (23, .int .i32 s.m.lw), (24, .int .i32 fr'), (25, .int .i32 (wrsF h x s.p).length), (26, .bool true), (27, .int .i32 f3.1), (16, .bool rf'), (17, .int .i32 s.m.frm), (18, .bool f3.2), (30, .int .i32 src)]) (fun f3 w' => f3.1 = (if s.m.fsrc = -2 then src else s.m.fsrc) ∧ f3.2 = (if s.m.fsrc = -2 then s.m.fs else if src = s.m.fsrc then s.m.fs else true) ∧ HP W0 w' M) ?_ (fun f3 w8 hmid => ?_)
                · refine CE_seq ?_
                  refine CE_reg ?_
                  refine EL_p (Pu_mv rfl) rfl ?_
                  refine EL_p (Pu_eql rfl rfl) rfl ?_
                  refine EL_nil ?_
                  refine CE_cP rfl (fun c100 => ?_) (fun c100 => ?_)
                  · refine CE_reg ?_
                    refine EL_p (Pu_mv rfl) rfl ?_
                    refine EL_p (Pu_as rfl) rfl ?_
                    refine EL_nil ?_
                    exact ⟨(src, s.m.fs), ⟨(if_pos c100).symm, (if_pos c100).symm, H6⟩, rfl, rfl, rfl, rfl, rfl, rfl, rfl, rfl, rfl, rfl, rfl, rfl, rfl, rfl, rfl, rfl, rfl, rfl, rfl, rfl, trivial⟩
                  · refine CE_seq ?_
                    refine CE_reg ?_
                    refine EL_p (Pu_mv rfl) rfl ?_
                    refine EL_p (Pu_mv rfl) rfl ?_
                    refine EL_p (Pu_neq rfl rfl) rfl ?_
                    refine EL_nil ?_
                    refine CE_cN rfl (fun c104 => ?_) (fun c104 => ?_)
                    · refine CE_reg ?_
                      refine EL_p (Pu_as rfl) rfl ?_
                      refine EL_nil ?_
                      exact ⟨(s.m.fsrc, true), ⟨(if_neg c100).symm, by rw [if_neg c100, if_neg c104], H6⟩, rfl, rfl, rfl, rfl, rfl, rfl, rfl, rfl, rfl, rfl, rfl, rfl, rfl, rfl, rfl, rfl, rfl, rfl, rfl, rfl, trivial⟩
                    · refine CE_skip ?_
                      exact ⟨(s.m.fsrc, s.m.fs), ⟨(if_neg c100).symm, by rw [if_neg c100, if_pos c104], H6⟩, rfl, rfl, rfl, rfl, rfl, rfl, rfl, rfl, rfl, rfl, rfl, rfl, rfl, rfl, rfl, rfl, rfl, rfl, rfl, rfl, trivial⟩
                obtain ⟨hf31, hf32, H7⟩ := hmid
                refine CE_reg ?_
                refine EL_p (Pu_mv rfl) rfl ?_
                refine EL_p (Pu_as rfl) rfl ?_
                refine EL_nil ?_
                have c98' : ¬ src = (t : Int) := c98
                refine ⟨msR (wrsF h x s.p).length src t s.m, ⟨hmr, hfb, H7⟩, rfl, rfl, rfl, rfl, rfl, rfl, rfl, rfl, rfl, rfl, rfl, rfl, congrArg (fun z => some (Value.int .i32 z)) (hfr), rfl, rfl, congrArg (fun z => some (Value.int .i32 z)) (hf31.trans (if_neg c98').symm), congrArg (fun z => some (Value.bool z)) hrf2, congrArg (fun z => some (Value.int .i32 z)) ((if_neg c98').symm), congrArg (fun z => some (Value.bool z)) (hf32.trans (if_neg c98').symm), trivial⟩
              · refine CE_skip ?_
                have c98' : src = (t : Int) := c98
                exact ⟨msR (wrsF h x s.p).length src t s.m, ⟨hmr, hfb, H6⟩, rfl, rfl, rfl, rfl, rfl, rfl, rfl, rfl, rfl, rfl, rfl, rfl, congrArg (fun z => some (Value.int .i32 z)) (hfr), rfl, rfl, congrArg (fun z => some (Value.int .i32 z)) ((if_pos c98').symm), congrArg (fun z => some (Value.bool z)) hrf2, congrArg (fun z => some (Value.int .i32 z)) ((if_pos c98').symm), congrArg (fun z => some (Value.bool z)) (if_pos c98').symm, trivial⟩
            · refine CE_skip ?_
              have hA2 : h.A s.p = 119 := by omega
              obtain ⟨g1, g2⟩ := hfw1 hA2
              refine ⟨msW (accF h x s.p).length s.m, ⟨?_, (by show (if s.m.fw < 0 then ((accF h x s.p).length : Int) else s.m.fw) ≤ 4096; split <;> omega), H3⟩, rfl, rfl, rfl, rfl, rfl, rfl, rfl, rfl, rfl, rfl, congrArg (fun z => some (Value.int .i32 z)) (g1), congrArg (fun z => some (Value.int .i32 z)) (g2), rfl, rfl, rfl, rfl, congrArg (fun z => some (Value.bool z)) (hrf.trans ?_), rfl, rfl, trivial⟩
              · rw [hone]
                have e : opT h s.p = wrT (accF h x s.p).length := by unfold opT; rw [if_pos hA2, itm_eq hx]
                rw [e]; exact hm.write
              · show _ = if s.m.sn = true then s.m.rf else false
                rw [decide_eq_false c79]
          · refine CE_skip ?_
            refine ⟨s.m, ⟨?_, hfb, H1⟩, rfl, rfl, rfl, rfl, rfl, rfl, rfl, rfl, rfl, rfl, rfl, rfl, rfl, rfl, rfl, rfl, rfl, rfl, rfl, trivial⟩
            rw [oneT_no (fun hh => c58 (by rw [hh.2.1]))]; exact hm
        obtain ⟨hm2, hfb2, H8⟩ := hmid
        refine CE_seq ?_
        refine CE_reg ?_
        refine EL_p (Pu_mv rfl) rfl ?_
        refine EL_p (Pu_add rfl rfl (w32 (by omega))) rfl ?_
        refine EL_p (Pu_as rfl) rfl ?_
        refine EL_nil ?_
        refine CE_seq ?_
        refine CE_reg ?_
        refine EL_p (Pu_mv rfl) rfl ?_
        refine EL_p (Pu_mv rfl) rfl ?_
        refine EL_p (Pu_ixA rfl rfl sl22 rfl hlt (H8.anzM gm.act hlt)) rfl ?_
        refine EL_ld rfl fl5 (H8.acellM gm.act hlt) rfl ?_
        refine EL_p (Pu_eql rfl rfl) rfl ?_
        refine EL_nil ?_
        refine CE_cP rfl (fun c112 => ?_) (fun c112 => ?_)
        · refine CE_reg ?_
          refine EL_p (Pu_mv rfl) rfl ?_
          refine EL_p (Pu_add rfl rfl (w32 (by omega))) rfl ?_
          refine EL_p (Pu_as rfl) rfl ?_
          refine EL_nil ?_
          refine CE_reg ?_
          refine EL_p (Pu_mv rfl) rfl ?_
          refine EL_p (Pu_add rfl rfl (w64 (by omega))) rfl ?_
          refine EL_p (Pu_as rfl) rfl ?_
          refine EL_nil ?_
          have ew : (wrsF h x (s.p + 1)).length = (wrsF h x s.p).length + 1 := by rw [wrsF, if_pos ⟨hl, hx, c112⟩]; simp
          exact ⟨⟨s.p + 1, m'⟩, by dsimp only; omega, ⟨rfl, rfl, rfl, rfl, rfl, rfl, rfl, congrArg (fun z => some (Value.int .i32 z)) (by rw [ea]; omega), congrArg (fun z => some (Value.int .i32 z)) (by rw [ew]; omega), rfl, rfl, rfl, rfl, rfl, rfl, rfl, rfl, rfl, rfl, trivial⟩, hlt, hm2, hfb2, H8⟩
        · refine CE_skip ?_
          refine CE_reg ?_
          refine EL_p (Pu_mv rfl) rfl ?_
          refine EL_p (Pu_add rfl rfl (w64 (by omega))) rfl ?_
          refine EL_p (Pu_as rfl) rfl ?_
          refine EL_nil ?_
          have ew : wrsF h x (s.p + 1) = wrsF h x s.p := by rw [wrsF, if_neg (fun hh => c112 hh.2.2)]
          exact ⟨⟨s.p + 1, m'⟩, by dsimp only; omega, ⟨rfl, rfl, rfl, rfl, rfl, rfl, rfl, congrArg (fun z => some (Value.int .i32 z)) (by rw [ea]; omega), congrArg (fun z => some (Value.int .i32 z)) (by rw [ew]), rfl, rfl, rfl, rfl, rfl, rfl, rfl, rfl, rfl, rfl, trivial⟩, hlt, hm2, hfb2, H8⟩
  · have hpn : s.p = h.n := by omega
    have hms : MSome c s.m := by
      rw [hpn, hc] at hm
      exact hm
    have hna2 := accF_length h x h.n
    have hnw2 := wrsF_length h x h.n
    have k1 := hms.fw
    have k2 := hms.fr
    have k3 := hms.lw
    have k4 := hms.lr
    refine CE_exit ?_
    refine CE_seq ?_
    refine CE_reg ?_
    refine EL_p (Pu_mv rfl) rfl ?_
    refine EL_p (Pu_as rfl) rfl ?_
    refine EL_nil ?_
    refine CE_midG (fun (v1 : Int) => [(21, .int .i32 (wrsF h x s.p).length), (23, .int .i32 s.m.lw), (24, .int .i32 s.m.fr), (25, .int .i32 s.m.lr), (16, .bool s.m.rf), (17, .int .i32 s.m.frm), (18, .bool s.m.fs), (12, .int .i32 v1)]) (fun v1 w' => v1 = (finT h c).sa ∧ HP W0 w' M) ?_ (fun v1 w2 hmid => ?_)
    · refine CE_seq ?_
      refine CE_reg ?_
      refine EL_p (Pu_mv rfl) rfl ?_
      refine EL_p (Pu_geq rfl rfl) rfl ?_
      refine EL_nil ?_
      refine CE_cP rfl (fun c117 => ?_) (fun c117 => ?_)
      · refine CE_reg ?_
        refine EL_p (Pu_mv rfl) rfl ?_
        refine EL_p (Pu_add rfl rfl (w32 (by omega))) rfl ?_
        refine EL_p (Pu_as rfl) rfl ?_
        refine EL_nil ?_
        refine ⟨s.m.fw + 1, ⟨?_, H1⟩, rfl, rfl, rfl, rfl, rfl, rfl, rfl, rfl, trivial⟩
        show s.m.fw + 1 = if c.sa < 0 then ((accF h c.item h.n).length : Int) else c.sa
        rw [hms.sa, if_neg (show ¬ s.m.fw < 0 by omega), if_neg (by omega)]
      · refine CE_skip ?_
        refine ⟨((accF h x s.p).length : Int), ⟨?_, H1⟩, rfl, rfl, rfl, rfl, rfl, rfl, rfl, rfl, trivial⟩
        show ((accF h x s.p).length : Int) = if c.sa < 0 then ((accF h c.item h.n).length : Int) else c.sa
        rw [hms.sa, if_pos (show s.m.fw < 0 by omega), if_pos (by decide), hci, hpn]
    obtain ⟨hv1, H2⟩ := hmid
    refine CE_seq ?_
    refine CE_reg ?_
    refine EL_p (Pu_mv rfl) rfl ?_
    refine EL_p (Pu_as rfl) rfl ?_
    refine EL_nil ?_
    refine CE_midG (fun (v2 : Int) => [(21, .int .i32 (wrsF h x s.p).length), (23, .int .i32 s.m.lw), (24, .int .i32 s.m.fr), (25, .int .i32 s.m.lr), (16, .bool s.m.rf), (17, .int .i32 s.m.frm), (18, .bool s.m.fs), (12, .int .i32 v1), (13, .int .i32 v2)]) (fun v2 w' => v2 = (finT h c).sw ∧ HP W0 w' M) ?_ (fun v2 w3 hmid => ?_)
    · refine CE_seq ?_
      refine CE_reg ?_
      refine EL_p (Pu_mv rfl) rfl ?_
      refine EL_p (Pu_geq rfl rfl) rfl ?_
      refine EL_nil ?_
      refine CE_cP rfl (fun c122 => ?_) (fun c122 => ?_)
      · refine CE_reg ?_
        refine EL_p (Pu_mv rfl) rfl ?_
        refine EL_p (Pu_as rfl) rfl ?_
        refine EL_nil ?_
        refine ⟨s.m.fr, ⟨?_, H2⟩, rfl, rfl, rfl, rfl, rfl, rfl, rfl, rfl, rfl, trivial⟩
        show s.m.fr = if c.sw < 0 then ((wrsF h c.item h.n).length : Int) else c.sw
        rw [hms.sw, if_neg (by omega)]
      · refine CE_skip ?_
        refine ⟨((wrsF h x s.p).length : Int), ⟨?_, H2⟩, rfl, rfl, rfl, rfl, rfl, rfl, rfl, rfl, rfl, trivial⟩
        show ((wrsF h x s.p).length : Int) = if c.sw < 0 then ((wrsF h c.item h.n).length : Int) else c.sw
        rw [hms.sw, if_pos (by omega), hci, hpn]
    obtain ⟨hv2, H3⟩ := hmid
    refine CE_seq ?_
    refine CE_reg ?_
    refine EL_p (Pu_as rfl) rfl ?_
    refine EL_nil ?_
    refine CE_midG (fun (v3 : Int) => [(21, .int .i32 (wrsF h x s.p).length), (23, .int .i32 s.m.lw), (24, .int .i32 s.m.fr), (25, .int .i32 s.m.lr), (16, .bool s.m.rf), (17, .int .i32 s.m.frm), (18, .bool s.m.fs), (12, .int .i32 v1), (13, .int .i32 v2), (14, .int .i32 v3)]) (fun v3 w' => v3 = (finT h c).pa ∧ HP W0 w' M) ?_ (fun v3 w4 hmid => ?_)
    · refine CE_seq ?_
      refine CE_reg ?_
      refine EL_p (Pu_mv rfl) rfl ?_
      refine EL_p (Pu_geq rfl rfl) rfl ?_
      refine EL_nil ?_
      refine CE_cP rfl (fun c125 => ?_) (fun c125 => ?_)
      · refine CE_reg ?_
        refine EL_p (Pu_mv rfl) rfl ?_
        refine EL_p (Pu_as rfl) rfl ?_
        refine EL_nil ?_
        refine ⟨s.m.lw, ⟨?_, H3⟩, rfl, rfl, rfl, rfl, rfl, rfl, rfl, rfl, rfl, rfl, trivial⟩
        show s.m.lw = c.pa
        rw [hms.pa, if_neg (by omega)]
      · refine CE_skip ?_
        refine ⟨0, ⟨?_, H3⟩, rfl, rfl, rfl, rfl, rfl, rfl, rfl, rfl, rfl, rfl, trivial⟩
        show 0 = c.pa
        rw [hms.pa, if_pos (by omega)]
    obtain ⟨hv3, H4⟩ := hmid
    refine CE_seq ?_
    refine CE_reg ?_
    refine EL_p (Pu_as rfl) rfl ?_
    refine EL_nil ?_
    refine CE_midG (fun (v4 : Int) => [(21, .int .i32 (wrsF h x s.p).length), (23, .int .i32 s.m.lw), (24, .int .i32 s.m.fr), (25, .int .i32 s.m.lr), (16, .bool s.m.rf), (17, .int .i32 s.m.frm), (18, .bool s.m.fs), (12, .int .i32 v1), (13, .int .i32 v2), (14, .int .i32 v3), (15, .int .i32 v4)]) (fun v4 w' => v4 = (finT h c).pw ∧ HP W0 w' M) ?_ (fun v4 w5 hmid => ?_)
    · refine CE_seq ?_
      refine CE_reg ?_
      refine EL_p (Pu_mv rfl) rfl ?_
      refine EL_p (Pu_geq rfl rfl) rfl ?_
      refine EL_nil ?_
      refine CE_cP rfl (fun c128 => ?_) (fun c128 => ?_)
      · refine CE_reg ?_
        refine EL_p (Pu_mv rfl) rfl ?_
        refine EL_p (Pu_as rfl) rfl ?_
        refine EL_nil ?_
        refine ⟨s.m.lr, ⟨?_, H4⟩, rfl, rfl, rfl, rfl, rfl, rfl, rfl, rfl, rfl, rfl, rfl, trivial⟩
        show s.m.lr = c.pw
        rw [hms.pw, if_neg (by omega)]
      · refine CE_skip ?_
        refine ⟨0, ⟨?_, H4⟩, rfl, rfl, rfl, rfl, rfl, rfl, rfl, rfl, rfl, rfl, rfl, trivial⟩
        show 0 = c.pw
        rw [hms.pw, if_pos (by omega)]
    obtain ⟨hv4, H5⟩ := hmid
    refine CE_ret ?_
    refine ⟨_, rfl, ?_, H5⟩
    rw [hv1, hv2, hv3, hv4]
    have e1 : s.m.rf = (finT h c).rf := hms.rf.symm
    have e2 : s.m.frm = (finT h c).fr := hms.fe.symm
    have e3 : s.m.fs = (finT h c).fs := hms.fs.symm
    rw [e1, e2, e3]
    rfl
end Go.Proofs.Qxb6602549a
