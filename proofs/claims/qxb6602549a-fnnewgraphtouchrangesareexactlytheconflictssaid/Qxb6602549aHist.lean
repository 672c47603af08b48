/-
  The indexed history in memory; ZZIndexed, aborted, endsBy, endAfter, add.
-/
import Derived.Test.Qxb6602549aShape
namespace Go.Proofs.Qxb6602549a
open Go Go.RowKit
set_option linter.unusedSimpArgs false
set_option linter.unusedVariables false

/-- three cells are stored into a block of three -/
theorem Lo_st57 {N : Nat} {e : Env} {W0 w : World} {L : List Chunk} {x y : Operand} {ty : TypeId} {j b : Nat} {f : Nat → Value} {u0 u1 u2 : Value} {Rr : Value → World → Prop} (H : HP W0 w L) (hj : L[j]? = some (Blk b 3 f))
    (hx : opv e x = some (.pointer (some ⟨b, 0, none⟩))) (hy : opv e y = some (.agg #[u0, u1, u2])) (c0 : u0.oneCell' = true) (c1 : u1.oneCell' = true) (c2 : u2.oneCell' = true)
    (h : ∀ w', HP W0 w' (L.set j (Blk b 3 (cellsF [u0, u1, u2]))) → Rr undef w') : Lo Try.prog N (.store 57 x y) ty e w Rr := by
  refine ⟨fun a ha dst pos af g => ?_⟩
  have H1 := H.store hj (i := 0) (by omega) u0
  have hjl : j < L.length := (List.getElem?_eq_some_iff.1 hj).1
  have hj1 : (L.set j (Blk b 3 (setF f 0 u0)))[j]? = some (Blk b 3 (setF f 0 u0)) := by rw [List.getElem?_set_self hjl]
  have H2 := H1.store hj1 (i := 1) (by omega) u1
  rw [List.set_set] at H2
  have hj2 : (L.set j (Blk b 3 (setF (setF f 0 u0) 1 u1)))[j]? = some (Blk b 3 (setF (setF f 0 u0) 1 u1)) := by rw [List.getElem?_set_self hjl]
  have H3 := H2.store hj2 (i := 2) (by omega) u2
  rw [List.set_set] at H3
  have hj3 : (L.set j (Blk b 3 (setF (setF (setF f 0 u0) 1 u1) 2 u2)))[j]? = some (Blk b 3 (setF (setF (setF f 0 u0) 1 u1) 2 u2)) := by rw [List.getElem?_set_self hjl]
  have H4 := H3.congr hj3 (g := cellsF [u0, u1, u2]) (fun i hi => by
    have : i = 0 ∨ i = 1 ∨ i = 2 := by omega
    rcases this with rfl | rfl | rfl <;> rfl)
  rw [List.set_set] at H4
  refine .inr (.inl ⟨_, ?_, h _ H4⟩)
  have a0 := H.cell hj (i := 0) (by omega)
  have f0 := H.frz hj (i := 0)
  have a1 := H1.cell hj1 (i := 1) (by omega)
  have f1 := H1.frz hj1 (i := 1)
  have a2 := H2.cell hj2 (i := 2) (by omega)
  have f2 := H2.frz hj2 (i := 2)
  simp [execOp, ha.eval hx, ha.eval hy, Instr.storeAt, Instr.sureAddr, storeVar, Value.cells, run_sizeOf (sizeT inf57), storeCells, addr_add, run_store, c0, c1, c2, a0, f0, a1, f1, a2, f2]

/-! ### The history -/
structure HRec where
  hb : Nat
  ob : Nat
  n : Nat
  nt : Nat
  m : Nat
  zx : Bool
  bx : Nat
  zt : Bool
  bt : Nat
  zi : Bool
  bi : Nat
  za : Bool
  ba : Nat
  endv : Value
  A : Nat → Int
  T : Nat → Nat
  I : Nat → Int
  X : Nat → Int
  B : Nat → Bool

def opsF (A : Nat → Int) (i : Nat) : Value := if i % 3 = 0 then .int .u8 (A (i / 3)) else cellsF [.int .u8 0, .int .i64 0, .string ByteArray.empty] (i % 3)

def HRec.cells (h : HRec) : List Value := [.slice (some ⟨h.ob, 0, none⟩) h.n h.n, aval h.zx h.bx h.nt, aval h.zt h.bt h.n, aval h.zi h.bi h.n, .int .i64 h.m, aval h.za h.ba h.nt, h.endv]

/-- the history lies among the chunks -/
structure InL (h : HRec) (L : List Chunk) : Prop where
  mh : Blk h.hb 7 (cellsF h.cells) ∈ L
  mo : Blk h.ob (h.n * 3) (opsF h.A) ∈ L
  mt : Arr h.zt h.bt h.n (fun p => .int .i32 (h.T p)) ∈ L
  mi : Arr h.zi h.bi h.n (fun p => .int .i32 (h.I p)) ∈ L
  ma : Arr h.za h.ba h.nt (fun t => .bool (h.B t)) ∈ L

theorem InL.cons {h : HRec} {L : List Chunk} (x : InL h L) (c : Chunk) : InL h (c :: L) :=
  ⟨List.mem_cons_of_mem _ x.mh, List.mem_cons_of_mem _ x.mo, List.mem_cons_of_mem _ x.mt, List.mem_cons_of_mem _ x.mi, List.mem_cons_of_mem _ x.ma⟩

/-- its shape -/
structure HOK (h : HRec) : Prop where
  hn : h.n ≤ 4096
  hnt : h.nt ≤ 4096
  hm : h.m ≤ 65536
  ok : ∀ p, p < h.n → h.T p < h.nt ∧ (((h.A p = 114 ∨ h.A p = 119) ∧ 0 ≤ h.I p ∧ h.I p < h.m) ∨ ((h.A p = 99 ∨ h.A p = 97) ∧ h.I p = -1))

/-- its ends -/
structure EPl (h : HRec) (E : Nat → Nat) : Prop where
  rng : ∀ t, t < h.nt → E t ≤ h.n
  own : ∀ t, t < h.nt → E t < h.n → h.T (E t) = t ∧ (h.A (E t) = 99 ∨ h.A (E t) = 97)
  aft : ∀ p, p < h.n → p ≤ E (h.T p) ∧ ((h.A p = 99 ∨ h.A p = 97) → E (h.T p) = p)

structure EOK (h : HRec) (E : Nat → Nat) (ze : Bool) (be : Nat) (L : List Chunk) : Prop where
  ve : h.endv = aval ze be h.nt
  me : Arr ze be h.nt (fun t => .int .i64 (E t)) ∈ L

theorem EOK.cons {h : HRec} {E : Nat → Nat} {ze : Bool} {be : Nat} {L : List Chunk} (x : EOK h E ze be L) (c : Chunk) : EOK h E ze be (c :: L) :=
  ⟨x.ve, List.mem_cons_of_mem _ x.me⟩

theorem opsF_at (A : Nat → Int) (p : Nat) : opsF A (p * 3) = .int .u8 (A p) := by
  unfold opsF
  rw [if_pos (by omega), show p * 3 / 3 = p by omega]

theorem indexed16 {W0 w : World} {L : List Chunk} {z0 : Bool} {b0 n : Nat} {A : Nat → Int} {v1 v2 v3 v5 v6 : Value} {m : Int} (H : HP W0 w L) (ha : Arr z0 b0 n (fun p => .int .u8 (A p)) ∈ L) (hn : n ≤ 4096)
    (c1 : v1.cells = #[v1]) (c2 : v2.cells = #[v2]) (c3 : v3.cells = #[v3]) (c5 : v5.cells = #[v5]) (c6 : v6.cells = #[v6]) :
    Calls Try.prog 16 #[aval z0 b0 n, v1, v2, v3, .int .i64 m, v5, v6] w fun x w' => ∃ hb ob, x = .returned (.pointer (some ⟨hb, 0, none⟩)) ∧
      HP W0 w' (Blk hb 7 (cellsF [.slice (some ⟨ob, 0, none⟩) n n, v1, v2, v3, .int .i64 m, v5, v6]) :: Blk ob (n * 3) (opsF A) :: L) := by
  refine calls_CE Try.func16 rfl Try.ntmps16 rfl rfl ?_
  refine CE_seq ?_
  refine CE_reg ?_
  refine EL_p (Pu_as rfl) rfl ?_
  refine EL_nil ?_
  refine CE_seq ?_
  refine CE_reg ?_
  refine EL_p (Pu_mv rfl) rfl ?_
  refine EL_p (Pu_len rfl sl22 rfl) rfl ?_
  refine EL_L rfl (Lo_make (c := n) H rfl rfl rfl Try.underlying54 ze57 (by omega) (by omega) (fun ob w1 H1 => ?_))
  refine EL_p (Pu_as rfl) rfl ?_
  refine EL_nil ?_
  refine CE_seq ?_
  refine CE_seq ?_
  refine CE_reg ?_
  refine EL_p (Pu_mv rfl) rfl ?_
  refine EL_p (Pu_len rfl sl22 rfl) rfl ?_
  refine EL_p (Pu_mv rfl) rfl ?_
  refine EL_nil ?_
  refine CE_block ?_
  refine CE_loop (fun (i : Nat) w' => i ≤ n ∧ HP W0 w' (Blk ob (n * 3) (fun c => if c < i * 3 then opsF A c else cellsF [.int .u8 0, .int .i64 0, .string ByteArray.empty] (c % 3)) :: L))
    (fun i => [(0, aval z0 b0 n), (1, v1), (2, v2), (3, v3), (4, .int .i64 m), (5, v5), (6, v6), (15, .slice (some ⟨ob, 0, none⟩) n n), (21, .int .i64 n), (22, .int .i64 i)]) (fun i => n - i) 0
    ⟨by omega, by simpa [Value.cells] using H1⟩ ⟨rfl, rfl, rfl, rfl, rfl, rfl, rfl, rfl, rfl, rfl, trivial⟩ ?_
  rintro i w2 ⟨hi, H2⟩
  refine CE_seq ?_
  refine CE_reg ?_
  refine EL_p (Pu_lss rfl rfl) rfl ?_
  refine EL_nil ?_
  refine CE_seq ?_
  refine CE_cP rfl (fun c23 => ?_) (fun c23 => ?_)
  · have hlt : i < n := by omega
    have ha2 := List.mem_cons_of_mem (Blk ob (n * 3) (fun c => if c < i * 3 then opsF A c else cellsF [.int .u8 0, .int .i64 0, .string ByteArray.empty] (c % 3))) ha
    refine CE_skip ?_
    refine CE_seq ?_
    refine CE_block ?_
    refine CE_seq ?_
    refine CE_reg ?_
    refine EL_p (Pu_mv rfl) rfl ?_
    refine EL_p (Pu_as rfl) rfl ?_
    refine EL_nil ?_
    refine CE_reg ?_
    refine EL_p (Pu_mv rfl) rfl ?_
    refine EL_p (Pu_mv rfl) rfl ?_
    refine EL_p (Pu_mv rfl) rfl ?_
    refine EL_p (Pu_mv rfl) rfl ?_
    first | (refine EL_p (Pu_ixA rfl rfl sl22 rfl hlt (H2.anzM ha2 hlt)) rfl ?_) | (refine EL_p (Pu_ixm rfl rfl sl54 rfl hlt) rfl ?_)
    refine EL_ld rfl fl5 (H2.acellM ha2 hlt) rfl ?_
    first | (refine EL_p (Pu_ixA rfl rfl sl22 rfl hlt (H2.anzM ha2 hlt)) rfl ?_) | (refine EL_p (Pu_ixm rfl rfl sl54 rfl hlt) rfl ?_)
    refine EL_p (Pu_fld rfl fi57_0) rfl ?_
    refine EL_L0 (Lo_st (j := 0) H2 rfl rfl rfl fl55 rfl (by omega) (fun w3 H3 => ?_))
    refine EL_nil ?_
    refine CE_reg ?_
    refine EL_p (Pu_add rfl rfl (w64 (by omega))) rfl ?_
    refine EL_p (Pu_mv rfl) rfl ?_
    refine EL_nil ?_
    refine ⟨i + 1, by omega, ⟨rfl, rfl, rfl, rfl, rfl, rfl, rfl, rfl, rfl, rfl, trivial⟩, by omega, H3.congr (j := 0) rfl (fun k hk => ?_)⟩
    unfold setF
    by_cases h1 : k = i * 3 + 0
    · rw [if_pos h1, if_pos (by omega), h1, Nat.add_zero, opsF_at]
    · rw [if_neg h1]
      by_cases h2 : k < i * 3
      · simp only [h2, if_true]; rw [if_pos (by omega)]
      · simp only [h2, if_false]
        by_cases h3 : k < (i + 1) * 3
        · rw [if_pos h3]
          unfold opsF
          rw [if_neg (by omega)]
        · rw [if_neg h3]
  · refine CE_exit ?_
    refine CE_seq ?_
    refine CE_reg ?_
    refine EL_p (Pu_mv rfl) rfl ?_
    refine EL_p (Pu_mv rfl) rfl ?_
    refine EL_p (Pu_mv rfl) rfl ?_
    refine EL_p (Pu_mv rfl) rfl ?_
    refine EL_p (Pu_mv rfl) rfl ?_
    refine EL_p (Pu_mv rfl) rfl ?_
    refine EL_p (Pu_mv rfl) rfl ?_
    refine EL_p (Pu_build59 rfl rfl rfl rfl rfl rfl rfl rfl c1 c2 c3 rfl c5 c6) rfl ?_
    refine EL_L rfl (Lo_box H2 rfl rfl (fun hb w3 H3 => ?_))
    refine EL_p (Pu_as rfl) rfl ?_
    refine EL_nil ?_
    refine CE_ret ?_
    refine ⟨_, rfl, hb, ob, rfl, ?_⟩
    have hin : i = n := by omega
    subst hin
    exact H3.congr (j := 1) rfl (fun k hk => by simp [hk])

theorem aborted46 {W0 w : World} {L : List Chunk} {h : HRec} (H : HP W0 w L) (hin : InL h L) {t : Nat} (ht : t < h.nt) :
    Calls Try.prog 46 #[.pointer (some ⟨h.hb, 0, none⟩), .int .i32 t] w fun x w' => x = .returned (.bool (h.B t)) ∧ HP W0 w' L := by
  refine calls_CE Try.func46 rfl Try.ntmps46 rfl rfl ?_
  refine CE_seq ?_
  refine CE_reg ?_
  refine EL_p (Pu_as rfl) rfl ?_
  refine EL_nil ?_
  refine CE_seq ?_
  refine CE_reg ?_
  refine EL_p (Pu_mv rfl) rfl ?_
  refine EL_p (Pu_nil rfl) rfl ?_
  refine EL_p (Pu_fld rfl fi59_5) rfl ?_
  first | (refine EL_ld rfl fl25 (H.cellM hin.mh (by decide)) rfl ?_) | (refine EL_ld rfl fl25 (H.acellM hin.ma ht) rfl ?_)
  refine EL_p (Pu_mv rfl) rfl ?_
  refine EL_p (Pu_ixA rfl rfl sl25 rfl ht (H.anzM hin.ma ht)) rfl ?_
  first | (refine EL_ld rfl fl4 (H.cellM hin.mh (by decide)) rfl ?_) | (refine EL_ld rfl fl4 (H.acellM hin.ma ht) rfl ?_)
  refine EL_p (Pu_as rfl) rfl ?_
  refine EL_nil ?_
  refine CE_ret ?_
  exact ⟨_, rfl, rfl, H⟩

def EndsBy (h : HRec) (E : Nat → Nat) (t : Nat) (a : Int) (p : Nat) : Prop := E t < p ∧ h.A (E t) = a
theorem decide_congr {p q : Prop} [d1 : Decidable p] [d2 : Decidable q] (h : p ↔ q) : decide p = decide q := by
  by_cases hp : p
  · rw [decide_eq_true hp, decide_eq_true (h.1 hp)]
  · rw [decide_eq_false hp, decide_eq_false (fun hq => hp (h.2 hq))]

theorem endsBy43 {W0 w : World} {L : List Chunk} {h : HRec} {E : Nat → Nat} {ze : Bool} {be : Nat} (H : HP W0 w L) (hin : InL h L) (he : EOK h E ze be L) {t p : Nat} (ht : t < h.nt) (hp : p ≤ h.n) (a : Int) :
    Calls Try.prog 43 #[.pointer (some ⟨h.hb, 0, none⟩), .int .i32 t, .int .u8 a, .int .i64 p] w fun x w' => (∃ b, x = .returned (.bool b) ∧ (b = true ↔ EndsBy h E t a p)) ∧ HP W0 w' L := by
  have hve := he.ve
  obtain ⟨hb, ob, n, nt, m, zx, bx, zt, bt, zi, bi, za, ba, endv, A, T, I, X, B⟩ := h
  dsimp only at hve ht hp
  subst hve
  refine calls_CE Try.func43 rfl Try.ntmps43 rfl rfl ?_
  refine CE_seq ?_
  refine CE_reg ?_
  refine EL_p (Pu_as rfl) rfl ?_
  refine EL_nil ?_
  refine CE_seq ?_
  refine CE_drawH H (fun w => HP W0 w L) [(0, 0), (1, 0), (2, 0), (3, 0), (4, 0), (5, 0), (6, 0), (7, 0), (8, 0), (9, 0), (10, 0), (11, 0), (12, 0), (13, 0), (14, 0), (15, 0), (16, 0), (17, 0), (18, 0), (19, 0), (20, 0), (21, 0), (22, 0), (23, 0), (24, 0), (25, 0), (26, 0), (27, 0)] mixed rfl (by kernel_rfl) (fun w1 H1 => ?_)
  refine AO_p rfl H1 (Pu.toIf (Pu_mv rfl)) rfl ?_
  refine AO_p rfl H1 (Pu.toIf (Pu_nil rfl)) rfl ?_
  refine AO_p rfl H1 (Pu.toIf (Pu_fld rfl fi59_6)) rfl ?_
  first | (refine AO_p rfl H1 (Ld rfl fl23 (fun w h => h.cellM hin.mh (by decide))) rfl ?_) | (refine AO_p rfl H1 (Ld rfl fl23 (fun w h => h.acellM he.me ht)) rfl ?_) | (refine AO_p rfl H1 (Ld rfl fl23 (fun w h => (h.cellM hin.mo (i := E t * 3) (show E t * 3 < n * 3 by omega)).trans (congrArg some (opsF_at _ _)))) rfl ?_)
  refine AO_p rfl H1 (Pu.toIf (Pu_mv rfl)) rfl ?_
  first | (refine AO_p rfl H1 (Pu.toIf (Pu_ixA rfl rfl sl23 rfl ht (H1.anzM he.me ht))) rfl ?_) | (refine AO_p rfl H1 (Pu.toIf (Pu_ixm (j := E t) rfl rfl sl54 rfl (show E t < n by omega))) rfl ?_)
  first | (refine AO_p rfl H1 (Ld rfl fl3 (fun w h => h.cellM hin.mh (by decide))) rfl ?_) | (refine AO_p rfl H1 (Ld rfl fl3 (fun w h => h.acellM he.me ht)) rfl ?_) | (refine AO_p rfl H1 (Ld rfl fl3 (fun w h => (h.cellM hin.mo (i := E t * 3) (show E t * 3 < n * 3 by omega)).trans (congrArg some (opsF_at _ _)))) rfl ?_)
  refine AO_p rfl H1 (Pu.toIf (Pu_mv rfl)) rfl ?_
  refine AO_p rfl H1 (Pu.toIf (Pu_lss rfl rfl)) rfl ?_
  refine AO_p rfl H1 (Pu.toIf (Pu_mv rfl)) rfl ?_
  refine AO_gP rfl rfl rfl (fun g18 => ?_) (fun g18 => ?_)
  · refine AO_yes rfl rfl rfl H1 (Pu.toIf (Pu_mv rfl)) rfl ?_
    refine AO_yes rfl rfl rfl H1 (Pu.toIf (Pu_nil rfl)) rfl ?_
    refine AO_yes rfl rfl rfl H1 (Pu.toIf (Pu_fld rfl fi59_0)) rfl ?_
    first | (refine AO_yes rfl rfl rfl H1 (Ld rfl fl54 (fun w h => h.cellM hin.mh (by decide))) rfl ?_) | (refine AO_yes rfl rfl rfl H1 (Ld rfl fl54 (fun w h => h.acellM he.me ht)) rfl ?_) | (refine AO_yes rfl rfl rfl H1 (Ld rfl fl54 (fun w h => (h.cellM hin.mo (i := E t * 3) (show E t * 3 < n * 3 by omega)).trans (congrArg some (opsF_at _ _)))) rfl ?_)
    refine AO_yes rfl rfl rfl H1 (Pu.toIf (Pu_mv rfl)) rfl ?_
    refine AO_yes rfl rfl rfl H1 (Pu.toIf (Pu_nil rfl)) rfl ?_
    refine AO_yes rfl rfl rfl H1 (Pu.toIf (Pu_fld rfl fi59_6)) rfl ?_
    first | (refine AO_yes rfl rfl rfl H1 (Ld rfl fl23 (fun w h => h.cellM hin.mh (by decide))) rfl ?_) | (refine AO_yes rfl rfl rfl H1 (Ld rfl fl23 (fun w h => h.acellM he.me ht)) rfl ?_) | (refine AO_yes rfl rfl rfl H1 (Ld rfl fl23 (fun w h => (h.cellM hin.mo (i := E t * 3) (show E t * 3 < n * 3 by omega)).trans (congrArg some (opsF_at _ _)))) rfl ?_)
    refine AO_yes rfl rfl rfl H1 (Pu.toIf (Pu_mv rfl)) rfl ?_
    first | (refine AO_yes rfl rfl rfl H1 (Pu.toIf (Pu_ixA rfl rfl sl23 rfl ht (H1.anzM he.me ht))) rfl ?_) | (refine AO_yes rfl rfl rfl H1 (Pu.toIf (Pu_ixm (j := E t) rfl rfl sl54 rfl (show E t < n by omega))) rfl ?_)
    first | (refine AO_yes rfl rfl rfl H1 (Ld rfl fl3 (fun w h => h.cellM hin.mh (by decide))) rfl ?_) | (refine AO_yes rfl rfl rfl H1 (Ld rfl fl3 (fun w h => h.acellM he.me ht)) rfl ?_) | (refine AO_yes rfl rfl rfl H1 (Ld rfl fl3 (fun w h => (h.cellM hin.mo (i := E t * 3) (show E t * 3 < n * 3 by omega)).trans (congrArg some (opsF_at _ _)))) rfl ?_)
    first | (refine AO_yes rfl rfl rfl H1 (Pu.toIf (Pu_ixA rfl rfl sl23 rfl ht (H1.anzM he.me ht))) rfl ?_) | (refine AO_yes rfl rfl rfl H1 (Pu.toIf (Pu_ixm (j := E t) rfl rfl sl54 rfl (show E t < n by omega))) rfl ?_)
    refine AO_yes rfl rfl rfl H1 (Pu.toIf (Pu_fld rfl fi57_0)) rfl ?_
    first | (refine AO_yes rfl rfl rfl H1 (Ld rfl fl55 (fun w h => h.cellM hin.mh (by decide))) rfl ?_) | (refine AO_yes rfl rfl rfl H1 (Ld rfl fl55 (fun w h => h.acellM he.me ht)) rfl ?_) | (refine AO_yes rfl rfl rfl H1 (Ld rfl fl55 (fun w h => (h.cellM hin.mo (i := E t * 3) (show E t * 3 < n * 3 by omega)).trans (congrArg some (opsF_at _ _)))) rfl ?_)
    refine AO_yes rfl rfl rfl H1 (Pu.toIf (Pu_mv rfl)) rfl ?_
    refine AO_yes rfl rfl rfl H1 (Pu.toIf (Pu_eql rfl rfl)) rfl ?_
    refine AO_p rfl H1 (Pu.toIf (Pu_pt rfl rfl)) rfl ?_
    refine AO_p rfl H1 (Pu.toIf (Pu_as rfl)) rfl ?_
    refine AO_nil ?_
    refine CE_ret ?_
    first | exact ⟨_, rfl, ⟨_, rfl, by unfold EndsBy; simp only [decide_eq_true_eq]; omega⟩, H1⟩ | exact ⟨_, rfl, ⟨_, rfl, by unfold EndsBy; simp only [Bool.false_eq_true, false_iff]; omega⟩, H1⟩
  · refine AO_no rfl rfl rfl rfl H1 rfl ?_
    refine AO_no rfl rfl rfl rfl H1 rfl ?_
    refine AO_no rfl rfl rfl rfl H1 rfl ?_
    refine AO_no rfl rfl rfl rfl H1 rfl ?_
    refine AO_no rfl rfl rfl rfl H1 rfl ?_
    refine AO_no rfl rfl rfl rfl H1 rfl ?_
    refine AO_no rfl rfl rfl rfl H1 rfl ?_
    refine AO_no rfl rfl rfl rfl H1 rfl ?_
    refine AO_no rfl rfl rfl rfl H1 rfl ?_
    refine AO_no rfl rfl rfl rfl H1 rfl ?_
    refine AO_no rfl rfl rfl rfl H1 rfl ?_
    refine AO_no rfl rfl rfl rfl H1 rfl ?_
    refine AO_no rfl rfl rfl rfl H1 rfl ?_
    refine AO_no rfl rfl rfl rfl H1 rfl ?_
    refine AO_no rfl rfl rfl rfl H1 rfl ?_
    refine AO_no rfl rfl rfl rfl H1 rfl ?_
    refine AO_p rfl H1 (Pu.toIf (Pu_pf rfl rfl)) rfl ?_
    refine AO_p rfl H1 (Pu.toIf (Pu_as rfl)) rfl ?_
    refine AO_nil ?_
    refine CE_ret ?_
    first | exact ⟨_, rfl, ⟨_, rfl, by unfold EndsBy; simp only [decide_eq_true_eq]; omega⟩, H1⟩ | exact ⟨_, rfl, ⟨_, rfl, by unfold EndsBy; simp only [Bool.false_eq_true, false_iff]; omega⟩, H1⟩

/-! ### lastEnding -/
structure LEnd where
  t0 : Int
  t1 : Int
  e0 : Int
  e1 : Int

def LEnd.after (l : LEnd) (t : Int) : Int := if l.t0 = t then l.e1 else l.e0
def LEnd.add (l : LEnd) (t e : Int) : LEnd :=
  if (l.t0 = t ∧ 0 < l.e0) ∨ (l.t1 = t ∧ 0 < l.e1) then l
  else if l.e0 < e then ⟨t, l.t0, e, l.e0⟩
  else if l.e1 < e then ⟨l.t0, t, l.e0, e⟩
  else l

/-- the four cells at o -/
structure LCells (f : Nat → Value) (o : Nat) (l : LEnd) : Prop where
  c0 : f o = .int .i32 l.t0
  c1 : f (o + 1) = .int .i32 l.t1
  c2 : f (o + 2) = .int .i64 l.e0
  c3 : f (o + 3) = .int .i64 l.e1

def setLE (f : Nat → Value) (o : Nat) (l : LEnd) : Nat → Value := fun i =>
  if i = o then .int .i32 l.t0 else if i = o + 1 then .int .i32 l.t1 else if i = o + 2 then .int .i64 l.e0 else if i = o + 3 then .int .i64 l.e1 else f i

theorem endAfter42 {W0 w : World} {L : List Chunk} {j b n o : Nat} {f : Nat → Value} {l : LEnd} (H : HP W0 w L) (hj : L[j]? = some (Blk b n f)) (ho : o + 4 ≤ n) (hl : LCells f o l) (t : Int) :
    Calls Try.prog 42 #[.pointer (some ⟨b, o, none⟩), .int .i32 t] w fun x w' => x = .returned (.int .i64 (l.after t)) ∧ HP W0 w' L := by
  refine calls_CE Try.func42 rfl Try.ntmps42 rfl rfl ?_
  refine CE_seq ?_
  refine CE_reg ?_
  refine EL_p (Pu_as rfl) rfl ?_
  refine EL_nil ?_
  refine CE_seq ?_
  refine CE_seq ?_
  refine CE_reg ?_
  refine EL_p (Pu_mv rfl) rfl ?_
  refine EL_p (Pu_nil rfl) rfl ?_
  refine EL_p (Pu_fld rfl fi74_0) rfl ?_
  refine EL_p (Pu_ixa rfl rfl ar71 rfl (by decide)) rfl ?_
  refine EL_ld rfl fl21 ((H.cell hj (i := o) (by omega)).trans (congrArg some hl.c0)) rfl ?_
  refine EL_p (Pu_mv rfl) rfl ?_
  refine EL_p (Pu_neq rfl rfl) rfl ?_
  refine EL_nil ?_
  refine CE_cN rfl (fun c11 => ?_) (fun c11 => ?_)
  · refine CE_seq ?_
    refine CE_reg ?_
    refine EL_p (Pu_mv rfl) rfl ?_
    refine EL_p (Pu_nil rfl) rfl ?_
    refine EL_p (Pu_fld rfl fi74_1) rfl ?_
    refine EL_p (Pu_ixa rfl rfl ar72 rfl (by decide)) rfl ?_
    refine EL_ld rfl fl3 ((H.cell hj (i := o + 2) (by omega)).trans (congrArg some hl.c2)) rfl ?_
    refine EL_p (Pu_as rfl) rfl ?_
    refine EL_nil ?_
    refine CE_ret ?_
    first | exact ⟨_, rfl, by unfold LEnd.after; rw [if_neg c11]; rfl, H⟩ | exact ⟨_, rfl, by unfold LEnd.after; rw [if_pos c11]; rfl, H⟩
  · refine CE_skip ?_
    refine CE_seq ?_
    refine CE_reg ?_
    refine EL_p (Pu_mv rfl) rfl ?_
    refine EL_p (Pu_nil rfl) rfl ?_
    refine EL_p (Pu_fld rfl fi74_1) rfl ?_
    refine EL_p (Pu_ixa rfl rfl ar72 rfl (by decide)) rfl ?_
    refine EL_ld rfl fl3 ((H.cell hj (i := o + 3) (by omega)).trans (congrArg some hl.c3)) rfl ?_
    refine EL_p (Pu_as rfl) rfl ?_
    refine EL_nil ?_
    refine CE_ret ?_
    first | exact ⟨_, rfl, by unfold LEnd.after; rw [if_neg c11]; rfl, H⟩ | exact ⟨_, rfl, by unfold LEnd.after; rw [if_pos c11]; rfl, H⟩
end Go.Proofs.Qxb6602549a
