/-
  recovery, walked.
-/
import Derived.Test.Qxb6602549aRecPlain
namespace Go.Proofs.Qxb6602549a
open Go Go.RowKit
set_option linter.unusedSimpArgs false
set_option linter.unusedVariables false

/-- An operation that would act, and whose guard says no. -/
theorem AO_nok {P : Program} {N : Nat} {full : List Oper} {S : World → Prop} {ord : List (Nat × Nat)} {e : Env} {w : World} {K : Env → World → Prop} {i j t k d : Nat} {op : Op} {ty : TypeId} {pos : String} {af : Array Edge} {want b : Bool}
    (ho : opAt full i = some { dst := some d, op := op, type := ty, pos := pos, after := af, guard := some (j, want) }) (hj : dstAt full j = some t)
    (ht : look e t = some (.bool b)) (hb : (b == want) = false) (hS : S w) (hd : Nat.blt d N = true)
    (h2 : AO P N full S ord ((d, undef) :: e) w K) : AO P N full S ((i, k + 1) :: ord) e w K := by
  refine ⟨fun a ha listed hcl hB hns => ?_⟩
  have hi : full.toArray[i]? = some { dst := some d, op := op, type := ty, pos := pos, after := af, guard := some (j, want) } := by rw [opAt_eq]; exact ho
  have hB1 : (Region.ready .any full.toArray listed = [i]) ∧ (k + 1 = 1 ∨ sinkB .any full.toArray i = true) ∧ ordFrom full.toArray (listed.setIfInBounds i true) ord = true := by
    simpa [ordFrom, Bool.and_eq_true, and_assoc] using hB
  obtain ⟨hr, hs, hB'⟩ := hB1
  refine ⟨fun h0 => (by rw [h0] at hr; cases hr), fun j' hj' => ?_⟩
  rw [hr] at hj'
  have hji : j' = i := by simpa using hj'
  subst hji
  unfold wpOp
  simp only [hi]
  have hw : ¬ Region.wanted { dst := some d, op := op, type := ty, pos := pos, after := af, guard := some (j, want) } (yielded full.toArray a.tmps) = true := by
    simp [Region.wanted, ha.yielded hj ht]; simpa using hb
  rw [if_neg hw]
  exact ⟨.inl hS, h2.out _ (ha.put d hd undef) _ (hcl.set (by rw [hr]; simp)) hB' hns⟩

theorem opsF_at1 (A : Nat → Int) (p : Nat) : opsF A (p * 3 + 1) = .int .i64 0 := by
  unfold opsF
  rw [if_neg (by omega), show (p * 3 + 1) % 3 = 1 by omega]; rfl
theorem opsF_at2 (A : Nat → Int) (p : Nat) : opsF A (p * 3 + 2) = .string ByteArray.empty := by
  unfold opsF
  rw [if_neg (by omega), show (p * 3 + 2) % 3 = 2 by omega]; rfl

theorem EL_ld57 {N : Nat} {e : Env} {w : World} {x : Operand} {b o d : Nat} {u0 u1 u2 : Value} {full rest : List Oper} {K : Env → World → Prop} {ty : TypeId} {pos : String} {af : Array Edge} (hx : opv e x = some (.pointer (some ⟨b, o, none⟩)))
    (h0 : w.cell? ⟨b, o, none⟩ = some u0) (h1 : w.cell? ⟨b, o + 1, none⟩ = some u1) (h2 : w.cell? ⟨b, o + 2, none⟩ = some u2) (hd : Nat.blt d N = true) (h : EL Try.prog N full rest ((d, .agg #[u0, u1, u2]) :: e) w K) :
    EL Try.prog N full ({ dst := some d, op := .load 57 x, type := ty, pos := pos, after := af, guard := none } :: rest) e w K :=
  EL_i (S := fun w' => w' = w) (Ld57 hx (fun w' e => by rw [e]; exact h0) (fun w' e => by rw [e]; exact h1) (fun w' e => by rw [e]; exact h2)) rfl hd h

def itemsF (R : Nat → Row) (W D : Nat → LEnd) (i : Nat) : Value :=
  cellsF [(R (i / 9)).val, .int .i32 (W (i / 9)).t0, .int .i32 (W (i / 9)).t1, .int .i64 (W (i / 9)).e0, .int .i64 (W (i / 9)).e1, .int .i32 (D (i / 9)).t0, .int .i32 (D (i / 9)).t1, .int .i64 (D (i / 9)).e0, .int .i64 (D (i / 9)).e1] (i % 9)

theorem itemsF_0 (R : Nat → Row) (W D : Nat → LEnd) (x : Nat) : itemsF R W D (x * 9) = (R x).val := by
  unfold itemsF
  rw [show x * 9 / 9 = x by omega, show x * 9 % 9 = 0 by omega]; rfl

theorem lcW (R : Nat → Row) (W D : Nat → LEnd) (x : Nat) : LCells (itemsF R W D) (x * 9 + 1) (W x) := by
  refine ⟨?_, ?_, ?_, ?_⟩
  · unfold itemsF; rw [show (x * 9 + 1) / 9 = x by omega, show (x * 9 + 1) % 9 = 1 by omega]; rfl
  · unfold itemsF; rw [show (x * 9 + 1 + 1) / 9 = x by omega, show (x * 9 + 1 + 1) % 9 = 2 by omega]; rfl
  · unfold itemsF; rw [show (x * 9 + 1 + 2) / 9 = x by omega, show (x * 9 + 1 + 2) % 9 = 3 by omega]; rfl
  · unfold itemsF; rw [show (x * 9 + 1 + 3) / 9 = x by omega, show (x * 9 + 1 + 3) % 9 = 4 by omega]; rfl
theorem lcD (R : Nat → Row) (W D : Nat → LEnd) (x : Nat) : LCells (itemsF R W D) (x * 9 + 5) (D x) := by
  refine ⟨?_, ?_, ?_, ?_⟩
  · unfold itemsF; rw [show (x * 9 + 5) / 9 = x by omega, show (x * 9 + 5) % 9 = 5 by omega]; rfl
  · unfold itemsF; rw [show (x * 9 + 5 + 1) / 9 = x by omega, show (x * 9 + 5 + 1) % 9 = 6 by omega]; rfl
  · unfold itemsF; rw [show (x * 9 + 5 + 2) / 9 = x by omega, show (x * 9 + 5 + 2) % 9 = 7 by omega]; rfl
  · unfold itemsF; rw [show (x * 9 + 5 + 3) / 9 = x by omega, show (x * 9 + 5 + 3) % 9 = 8 by omega]; rfl

theorem mod9 (k : Nat) : k % 9 = 0 ∨ k % 9 = 1 ∨ k % 9 = 2 ∨ k % 9 = 3 ∨ k % 9 = 4 ∨ k % 9 = 5 ∨ k % 9 = 6 ∨ k % 9 = 7 ∨ k % 9 = 8 := by omega

theorem itemsF_row (R : Nat → Row) (W D : Nat → LEnd) (x : Nat) (r : Row) (k : Nat) : setF (itemsF R W D) (x * 9) r.val k = itemsF (updR R x r) W D k := by
  unfold setF
  by_cases h1 : k = x * 9
  · rw [if_pos h1, h1, itemsF_0, updR_self]
  · rw [if_neg h1]
    unfold itemsF
    by_cases h2 : k / 9 = x
    · have h3 : k % 9 ≠ 0 := by omega
      rcases mod9 k with h | h | h | h | h | h | h | h | h
      · omega
      all_goals rw [h]; rfl
    · rw [updR_ne R r h2]

theorem itemsF_W (R : Nat → Row) (W D : Nat → LEnd) (x : Nat) (l : LEnd) (k : Nat) : setLE (itemsF R W D) (x * 9 + 1) l k = itemsF R (fun y => if y = x then l else W y) D k := by
  unfold setLE
  by_cases h2 : k / 9 = x
  · rcases mod9 k with h | h | h | h | h | h | h | h | h
    all_goals
      first
        | rw [if_pos (by omega)]
        | rw [if_neg (by omega), if_pos (by omega)]
        | rw [if_neg (by omega), if_neg (by omega), if_pos (by omega)]
        | rw [if_neg (by omega), if_neg (by omega), if_neg (by omega), if_pos (by omega)]
        | rw [if_neg (by omega), if_neg (by omega), if_neg (by omega), if_neg (by omega)]
      unfold itemsF
      rw [h]
      first | rfl | (rw [if_pos h2]; rfl) | (show _ = _; simp [cellsF, h2])
  · rw [if_neg (by omega), if_neg (by omega), if_neg (by omega), if_neg (by omega)]
    unfold itemsF
    simp only [if_neg h2]

theorem itemsF_D (R : Nat → Row) (W D : Nat → LEnd) (x : Nat) (l : LEnd) (k : Nat) : setLE (itemsF R W D) (x * 9 + 5) l k = itemsF R W (fun y => if y = x then l else D y) k := by
  unfold setLE
  by_cases h2 : k / 9 = x
  · rcases mod9 k with h | h | h | h | h | h | h | h | h
    all_goals
      first
        | rw [if_pos (by omega)]
        | rw [if_neg (by omega), if_pos (by omega)]
        | rw [if_neg (by omega), if_neg (by omega), if_pos (by omega)]
        | rw [if_neg (by omega), if_neg (by omega), if_neg (by omega), if_pos (by omega)]
        | rw [if_neg (by omega), if_neg (by omega), if_neg (by omega), if_neg (by omega)]
      unfold itemsF
      rw [h]
      first | rfl | (rw [if_pos h2]; rfl) | (show _ = _; simp [cellsF, h2])
  · rw [if_neg (by omega), if_neg (by omega), if_neg (by omega), if_neg (by omega)]
    unfold itemsF
    simp only [if_neg h2]

theorem updR_eta (R : Nat → Row) (x : Nat) : updR R x (R x) = R := by
  funext y
  unfold updR
  split
  · rename_i h; rw [h]
  · rfl
theorem updR_updR (R : Nat → Row) (x : Nat) (a b : Row) : updR (updR R x a) x b = updR R x b := by
  funext y
  unfold updR
  split <;> rfl

section
variable {W0 w : World} {L : List Chunk} {j m es x i b : Nat} {T : TypeId} {R : Nat → Row} {r : Row}
theorem HP.ublk (H : HP W0 w L) (hj : L[j]? = some (Fam m es T (updR R x r))) (hx : x < m) (hl : 0 < r.len) : ∃ b, r.blk = some b ∧ r.val = .slice (some ⟨b, 0, none⟩) r.len r.cap := by
  have e := updR_self R x r
  have h := H.rblk hj hx (by rw [e]; exact hl)
  rw [e] at h; exact h
theorem HP.ucell (H : HP W0 w L) (hj : L[j]? = some (Fam m es T (updR R x r))) (hx : x < m) (hb : r.blk = some b) (hi : i < r.len * es) : w.cell? ⟨b, i, none⟩ = some (r.c i) := by
  have e := updR_self R x r
  have h := H.rcell hj hx (b := b) (i := i) (by rw [e]; exact hb) (by rw [e]; exact hi)
  rw [e] at h; exact h
theorem HP.ucap (H : HP W0 w L) (hj : L[j]? = some (Fam m es T (updR R x r))) (hx : x < m) : r.len ≤ r.cap := by
  have e := updR_self R x r
  have h := H.rcap hj hx
  rw [e] at h; exact h
theorem HP.ucut (H : HP W0 w L) (hj : L[j]? = some (Fam m es T (updR R x r))) (hx : x < m) {h : Nat} (hh : h ≤ r.len) : HP W0 w (L.set j (Fam m es T (updR R x ⟨r.blk, h, r.cap, r.c⟩))) := by
  have e := updR_self R x r
  have g := H.rcut hj hx (h := h) (by rw [e]; exact hh)
  rw [e, updR_updR] at g; exact g
end

theorem strict_iff {h : HRec} {E : Nat → Nat} (ho : HOK h) (he : EPl h E) {p x : Nat} {l : LEnd} (hp : p < h.n) (hx : h.I p = x) (hl : LE (Did h 119 p x) E l) : (p : Int) < l.after (h.T p) ↔ BadS h E p := after_iff ho he hp hx hl
theorem rigor_iff {h : HRec} {E : Nat → Nat} (ho : HOK h) (he : EPl h E) {p x : Nat} {l : LEnd} (hp : p < h.n) (hx : h.I p = x) (hl : LE (Did h 114 p x) E l) : (p : Int) < l.after (h.T p) ↔ BadG h E p := after_iff ho he hp hx hl

theorem RInv.start {h : HRec} {E : Nat → Nat} : RInv h E ⟨0, true, true, true, true, fun _ => nilRow, fun _ => ⟨0, 0, 0, 0⟩, fun _ => ⟨0, 0, 0, 0⟩⟩ := by
  refine ⟨Nat.zero_le _, fun x hx i hi => ?_, fun x hx => by simp [nilRow], fun x hx => ?_, fun x hx => ?_, ?_, by simp, by simp, by simp⟩
  · simp [nilRow] at hi
  · exact ⟨Int.le_refl 0, Int.le_refl 0, fun h => absurd h (Int.lt_irrefl 0), fun h => absurd h (Int.lt_irrefl 0), fun u ⟨q, hq, _⟩ => absurd hq (Nat.not_lt_zero q), fun u ⟨q, hq, _⟩ => absurd hq (Nat.not_lt_zero q)⟩
  · exact ⟨Int.le_refl 0, Int.le_refl 0, fun h => absurd h (Int.lt_irrefl 0), fun h => absurd h (Int.lt_irrefl 0), fun u ⟨q, hq, _⟩ => absurd hq (Nat.not_lt_zero q), fun u ⟨q, hq, _⟩ => absurd hq (Nat.not_lt_zero q)⟩
  · simp


set_option maxHeartbeats 1000000 in
theorem recovery38 {W0 w : World} {L : List Chunk} {h : HRec} {E : Nat → Nat} {ze : Bool} {be : Nat} (H : HP W0 w L) (hin : InL h L) (ho : HOK h) (hE : EOK h E ze be L) (he : EPl h E) :
    Calls Try.prog 38 #[.pointer (some ⟨h.hb, 0, none⟩)] w fun x w' => (∃ rc aca st rg, x = .returned (.tuple #[.bool rc, .bool aca, .bool st, .bool rg]) ∧ RFacts h E rc aca st rg) ∧ HP W0 w' L := by
  have hom := ho.hm
  have hon := ho.hn
  refine calls_CE Try.func38 rfl Try.ntmps38 rfl rfl ?_
  refine CE_seq ?_
  refine CE_reg ?_
  refine EL_p (Pu_as rfl) rfl ?_
  refine EL_p (Pu_as rfl) rfl ?_
  refine EL_p (Pu_as rfl) rfl ?_
  refine EL_p (Pu_as rfl) rfl ?_
  refine EL_nil ?_
  refine CE_seq ?_
  refine CE_reg ?_
  refine EL_p (Pu_as rfl) rfl ?_
  refine EL_p (Pu_as rfl) rfl ?_
  refine EL_p (Pu_as rfl) rfl ?_
  refine EL_p (Pu_as rfl) rfl ?_
  refine EL_nil ?_
  refine CE_seq ?_
  refine CE_reg ?_
  refine EL_p (Pu_mv rfl) rfl ?_
  refine EL_p (Pu_nil rfl) rfl ?_
  refine EL_p (Pu_fld rfl fi59_4) rfl ?_
  refine EL_ld rfl fl3 (H.cellM hin.mh (by decide)) rfl ?_
  refine EL_L rfl (Lo_make (c := h.m) H rfl rfl rfl Try.underlying69 ze76 (by omega) (by omega) (fun ib w1 H1 => ?_))
  refine EL_p (Pu_as rfl) rfl ?_
  refine EL_nil ?_
  refine CE_seq ?_
  refine CE_seq ?_
  refine CE_reg ?_
  refine EL_p (Pu_mv rfl) rfl ?_
  refine EL_p (Pu_nil rfl) rfl ?_
  refine EL_p (Pu_fld rfl fi59_0) rfl ?_
  refine EL_ld rfl fl54 (H1.cellM (List.mem_cons_of_mem _ hin.mh) (by decide)) rfl ?_
  refine EL_p (Pu_len rfl sl54 rfl) rfl ?_
  refine EL_p (Pu_mv rfl) rfl ?_
  refine EL_nil ?_
  refine CE_block ?_
  have H1b := (H1.famNil h.m 1 21).congr (j := 1) rfl (g := itemsF (fun _ => nilRow) (fun _ => ⟨0, 0, 0, 0⟩) (fun _ => ⟨0, 0, 0, 0⟩)) (fun i _ => rfl)
  refine CE_loop (fun (g : RG) w' => RInv h E g ∧ HP W0 w' (Fam h.m 1 21 (g.R) :: Blk ib (h.m * 9) (itemsF (g.R) (g.W) (g.D)) :: L))
    (fun g => [(0, .pointer (some ⟨h.hb, 0, none⟩)), (2, .bool g.rc), (3, .bool g.aca), (4, .bool g.st), (5, .bool g.rg), (6, .slice (some ⟨ib, 0, none⟩) h.m h.m), (21, .slice (some ⟨h.ob, 0, none⟩) h.n h.n), (22, .int .i64 h.n), (23, .int .i64 g.p)])
    (fun g => h.n - g.p) ⟨0, true, true, true, true, fun _ => nilRow, fun _ => ⟨0, 0, 0, 0⟩, fun _ => ⟨0, 0, 0, 0⟩⟩ ⟨RInv.start, H1b⟩ ⟨rfl, rfl, rfl, rfl, rfl, rfl, rfl, rfl, rfl, trivial⟩ ?_
  rintro g w2 ⟨hi, H2⟩
  have hgp := hi.hp
  refine CE_seq ?_
  refine CE_reg ?_
  refine EL_p (Pu_lss rfl rfl) rfl ?_
  refine EL_nil ?_
  refine CE_seq ?_
  refine CE_cP rfl (fun c24 => ?_) (fun c24 => ?_)
  · have hlt : g.p < h.n := by omega
    have hok := ho.ok g.p hlt
    have hin2 := (hin.cons (Blk ib (h.m * 9) (itemsF g.R g.W g.D))).cons (Fam h.m 1 21 g.R)
    refine CE_skip ?_
    refine CE_seq ?_
    refine CE_block ?_
    refine CE_seq ?_
    refine CE_reg ?_
    refine EL_p (Pu_mv rfl) rfl ?_
    refine EL_p (Pu_ixm rfl rfl sl54 rfl hlt) rfl ?_
    refine EL_ld57 rfl ((H2.cellM hin2.mo (i := g.p * 3) (by omega)).trans (congrArg some (opsF_at _ _))) ((H2.cellM hin2.mo (i := g.p * 3 + 1) (by omega)).trans (congrArg some (opsF_at1 _ _))) ((H2.cellM hin2.mo (i := g.p * 3 + 2) (by omega)).trans (congrArg some (opsF_at2 _ _))) rfl ?_
    refine EL_L rfl (Lo_alloc H2 ze57 rfl (fun vb w3 H3 => ?_))
    refine EL_p (Pu_as rfl) rfl ?_
    refine EL_L0 (Lo_st57 (j := 0) H3 rfl rfl rfl rfl rfl rfl (fun w4 H4 => ?_))
    have H4 : HP W0 w4 (Blk vb 3 (cellsF [.int .u8 (h.A g.p), .int .i64 0, .string ByteArray.empty]) :: Fam h.m 1 21 (g.R) :: Blk ib (h.m * 9) (itemsF (g.R) (g.W) (g.D)) :: L) := H4
    have hin4 : InL h (Blk vb 3 (cellsF [.int .u8 (h.A g.p), .int .i64 0, .string ByteArray.empty]) :: Fam h.m 1 21 (g.R) :: Blk ib (h.m * 9) (itemsF (g.R) (g.W) (g.D)) :: L) := hin2.cons _
    refine EL_nil ?_
    refine CE_seq ?_
    refine CE_reg ?_
    refine EL_p (Pu_mv rfl) rfl ?_
    refine EL_p (Pu_nil rfl) rfl ?_
    refine EL_p (Pu_fld rfl fi59_3) rfl ?_
    first | (refine EL_ld rfl fl24 (H4.cellM hin4.mh (by decide)) rfl ?_) | (refine EL_ld rfl fl24 (H4.acellM hin4.mi hlt) rfl ?_)
    refine EL_p (Pu_mv rfl) rfl ?_
    refine EL_p (Pu_ixA rfl rfl sl24 rfl hlt (H4.anzM hin4.mi hlt)) rfl ?_
    first | (refine EL_ld rfl fl21 (H4.cellM hin4.mh (by decide)) rfl ?_) | (refine EL_ld rfl fl21 (H4.acellM hin4.mi hlt) rfl ?_)
    refine EL_p (Pu_as rfl) rfl ?_
    refine EL_nil ?_
    refine CE_seq ?_
    refine CE_seq ?_
    refine CE_reg ?_
    refine EL_p (Pu_mv rfl) rfl ?_
    refine EL_p (Pu_lss rfl rfl) rfl ?_
    refine EL_nil ?_
    refine CE_cP rfl (fun c36 => ?_) (fun c36 => ?_)
    · refine CE_exit ?_
      refine CE_reg ?_
      refine EL_p (Pu_add rfl rfl (w64 (by omega))) rfl ?_
      refine EL_p (Pu_mv rfl) rfl ?_
      refine EL_nil ?_
      exact ⟨{ g with p := g.p + 1 }, by dsimp only; omega, ⟨rfl, rfl, rfl, rfl, rfl, rfl, rfl, rfl, rfl, trivial⟩, hi.skip ho he hlt c36, H4.tail⟩
    · obtain ⟨x, hx⟩ : ∃ x : Nat, h.I g.p = x := ⟨(h.I g.p).toNat, by omega⟩
      have hxm : x < h.m := by omega
      have hT := hok.1
      refine CE_skip ?_
      refine CE_seq ?_
      refine CE_drawH H4 (fun w => HP W0 w (Blk vb 3 (cellsF [.int .u8 (h.A g.p), .int .i64 0, .string ByteArray.empty]) :: Fam h.m 1 21 (g.R) :: Blk ib (h.m * 9) (itemsF (g.R) (g.W) (g.D)) :: L)) [(0, 0), (1, 0), (2, 0), (3, 0), (4, 0), (5, 0), (6, 0), (7, 0), (8, 0), (9, 0), (10, 0), (11, 0)] mixed rfl (by kernel_rfl) (fun w5 H5 => ?_)
      refine AO_p rfl H5 (Pu.toIf (Pu_mv rfl)) rfl ?_
      refine AO_p rfl H5 (Pu.toIf (Pu_nil rfl)) rfl ?_
      refine AO_p rfl H5 (Pu.toIf (Pu_fld rfl fi59_2)) rfl ?_
      first | (refine AO_p rfl H5 (Ld rfl fl24 (fun w h => h.cellM hin4.mh (by decide))) rfl ?_) | (refine AO_p rfl H5 (Ld rfl fl24 (fun w h => h.acellM hin4.mt hlt)) rfl ?_)
      refine AO_p rfl H5 (Pu.toIf (Pu_mv rfl)) rfl ?_
      first | (refine AO_p rfl H5 (Pu.toIf (Pu_ixA rfl rfl sl24 rfl hlt (H5.anzM hin4.mt hlt))) rfl ?_) | (refine AO_p rfl H5 (Pu.toIf (Pu_ixm (j := x) rfl rfl sl69 hx hxm)) rfl ?_)
      first | (refine AO_p rfl H5 (Ld rfl fl21 (fun w h => h.cellM hin4.mh (by decide))) rfl ?_) | (refine AO_p rfl H5 (Ld rfl fl21 (fun w h => h.acellM hin4.mt hlt)) rfl ?_)
      refine AO_p rfl H5 (Pu.toIf (Pu_mv rfl)) rfl ?_
      refine AO_p rfl H5 (Pu.toIf (Pu_mv rfl)) rfl ?_
      first | (refine AO_p rfl H5 (Pu.toIf (Pu_ixA rfl rfl sl24 rfl hlt (H5.anzM hin4.mt hlt))) rfl ?_) | (refine AO_p rfl H5 (Pu.toIf (Pu_ixm (j := x) rfl rfl sl69 hx hxm)) rfl ?_)
      refine AO_p rfl H5 (Pu.toIf (Pu_as rfl)) rfl ?_
      refine AO_p rfl H5 (Pu.toIf (Pu_as rfl)) rfl ?_
      refine AO_nil ?_
      refine CE_midG (fun (st' : Bool) => [(0, .pointer (some ⟨h.hb, 0, none⟩)), (2, .bool (g.rc)), (3, .bool (g.aca)), (4, .bool (st')), (5, .bool (g.rg)), (6, .slice (some ⟨ib, 0, none⟩) h.m h.m), (21, .slice (some ⟨h.ob, 0, none⟩) h.n h.n), (22, .int .i64 h.n), (23, .int .i64 g.p), (7, .int .i64 g.p), (8, .pointer (some ⟨vb, 0, none⟩)), (10, .int .i32 (h.T g.p)), (11, .pointer (some ⟨ib, x * 9, none⟩))]) (fun st' w' => (st' = true ↔ g.st = true ∧ ¬ BadS h E g.p) ∧ HP W0 w' (Blk vb 3 (cellsF [.int .u8 (h.A g.p), .int .i64 0, .string ByteArray.empty]) :: Fam h.m 1 21 (g.R) :: Blk ib (h.m * 9) (itemsF (g.R) (g.W) (g.D)) :: L)) ?_ (fun st' w7 hmid => ?_)
      · refine CE_seq ?_
        refine CE_reg ?_
        refine EL_p (Pu_mv rfl) rfl ?_
        refine EL_p (Pu_nil rfl) rfl ?_
        refine EL_p (Pu_fld rfl fi76_1) rfl ?_
        refine EL_p (Pu_mv rfl) rfl ?_
        refine EL_L rfl (Lo_call ca42 rfl ((endAfter42 (j := 2) H5 rfl (by omega) (lcW g.R g.W g.D x) (h.T g.p)).mono (fun y w6 hh => ⟨_, hh.1, ?_⟩)))
        have H6 := hh.2
        refine EL_p (Pu_mv rfl) rfl ?_
        refine EL_p (Pu_gtr rfl rfl) rfl ?_
        refine EL_nil ?_
        refine CE_cP rfl (fun c53 => ?_) (fun c53 => ?_)
        · refine CE_reg ?_
          refine EL_p (Pu_as rfl) rfl ?_
          refine EL_nil ?_
          exact ⟨false, ⟨⟨fun hh => (by cases hh), fun hh => absurd ((strict_iff ho he hlt hx (hi.leW x hxm)).1 c53) hh.2⟩, H6⟩, ⟨rfl, rfl, rfl, rfl, rfl, rfl, rfl, rfl, rfl, rfl, rfl, rfl, rfl, trivial⟩⟩
        · refine CE_skip ?_
          exact ⟨g.st, ⟨⟨fun h1 => ⟨h1, fun h2 => c53 ((strict_iff ho he hlt hx (hi.leW x hxm)).2 h2)⟩, fun hh => hh.1⟩, H6⟩, ⟨rfl, rfl, rfl, rfl, rfl, rfl, rfl, rfl, rfl, rfl, rfl, rfl, rfl, trivial⟩⟩
      obtain ⟨hst, H7⟩ := hmid
      refine CE_seq ?_
      refine CE_reg ?_
      refine EL_p (Pu_fld rfl fi57_0) rfl ?_
      refine EL_ld rfl fl55 (H7.cell (j := 0) rfl (by decide)) rfl ?_
      refine EL_nil ?_
      refine CE_block ?_
      refine CE_seq ?_
      refine CE_reg ?_
      refine EL_p (Pu_eql rfl rfl) rfl ?_
      refine EL_p (Pu_as rfl) rfl ?_
      refine EL_nil ?_
      refine CE_cP rfl (fun c56 => ?_) (fun c56 => ?_)
      · refine CE_midG (fun (r' : Row) => [(0, .pointer (some ⟨h.hb, 0, none⟩)), (2, .bool (g.rc)), (3, .bool (g.aca)), (4, .bool (st')), (5, .bool (g.rg)), (6, .slice (some ⟨ib, 0, none⟩) h.m h.m), (21, .slice (some ⟨h.ob, 0, none⟩) h.n h.n), (22, .int .i64 h.n), (23, .int .i64 g.p), (7, .int .i64 g.p), (8, .pointer (some ⟨vb, 0, none⟩)), (10, .int .i32 (h.T g.p)), (11, .pointer (some ⟨ib, x * 9, none⟩))]) (fun r' w' => r'.len ≤ (g.R x).len ∧ (∀ i, i < r'.len → r'.c i = (g.R x).c i) ∧ (0 < r'.len → ∀ u : Nat, u < h.nt → r'.c (r'.len - 1) = .int .i32 u → ¬ EndsBy h E u 97 g.p) ∧ HP W0 w' (Blk vb 3 (cellsF [.int .u8 (h.A g.p), .int .i64 0, .string ByteArray.empty]) :: Fam h.m 1 21 (updR g.R x r') :: Blk ib (h.m * 9) (itemsF (updR g.R x r') (g.W) (g.D)) :: L)) ?_ (fun r' w8 hmid => ?_)
        · refine CE_block ?_
          have H7b : HP W0 w7 (Blk vb 3 (cellsF [.int .u8 (h.A g.p), .int .i64 0, .string ByteArray.empty]) :: Fam h.m 1 21 (updR g.R x (g.R x)) :: Blk ib (h.m * 9) (itemsF (updR g.R x (g.R x)) (g.W) (g.D)) :: L) := by rw [updR_eta]; exact H7
          refine CE_loop (fun (r : Row) w' => r.len ≤ (g.R x).len ∧ (∀ i, i < r.len → r.c i = (g.R x).c i) ∧ HP W0 w' (Blk vb 3 (cellsF [.int .u8 (h.A g.p), .int .i64 0, .string ByteArray.empty]) :: Fam h.m 1 21 (updR g.R x r) :: Blk ib (h.m * 9) (itemsF (updR g.R x r) (g.W) (g.D)) :: L)) (fun _ => [(0, .pointer (some ⟨h.hb, 0, none⟩)), (2, .bool (g.rc)), (3, .bool (g.aca)), (4, .bool (st')), (5, .bool (g.rg)), (6, .slice (some ⟨ib, 0, none⟩) h.m h.m), (21, .slice (some ⟨h.ob, 0, none⟩) h.n h.n), (22, .int .i64 h.n), (23, .int .i64 g.p), (7, .int .i64 g.p), (8, .pointer (some ⟨vb, 0, none⟩)), (10, .int .i32 (h.T g.p)), (11, .pointer (some ⟨ib, x * 9, none⟩))]) (fun r => r.len) (g.R x) ⟨Nat.le_refl _, fun _ _ => rfl, H7b⟩ ⟨rfl, rfl, rfl, rfl, rfl, rfl, rfl, rfl, rfl, rfl, rfl, rfl, rfl, trivial⟩ ?_
          rintro r w8 ⟨hrl, hrc, H8⟩
          have hlen := hi.len x hxm
          have hw0 : itemsF (updR g.R x r) g.W g.D (x * 9) = r.val := by rw [itemsF_0, updR_self]
          have hin8 : InL h (Blk vb 3 (cellsF [.int .u8 (h.A g.p), .int .i64 0, .string ByteArray.empty]) :: Fam h.m 1 21 (updR g.R x r) :: Blk ib (h.m * 9) (itemsF (updR g.R x r) (g.W) (g.D)) :: L) := ((hin.cons _).cons _).cons _
          have hE8 : EOK h E ze be (Blk vb 3 (cellsF [.int .u8 (h.A g.p), .int .i64 0, .string ByteArray.empty]) :: Fam h.m 1 21 (updR g.R x r) :: Blk ib (h.m * 9) (itemsF (updR g.R x r) (g.W) (g.D)) :: L) := ((hE.cons _).cons _).cons _
          refine CE_seq ?_
          refine CE_seq ?_
          refine CE_drawH H8 (fun w => HP W0 w (Blk vb 3 (cellsF [.int .u8 (h.A g.p), .int .i64 0, .string ByteArray.empty]) :: Fam h.m 1 21 (updR g.R x r) :: Blk ib (h.m * 9) (itemsF (updR g.R x r) (g.W) (g.D)) :: L)) [(0, 0), (1, 0), (2, 0), (3, 0), (4, 0), (5, 0), (6, 0), (7, 0), (8, 0), (9, 0), (10, 0), (11, 0), (12, 0), (13, 0), (14, 0), (15, 0), (16, 0), (17, 0), (18, 0), (19, 0), (20, 0), (21, 1), (22, 0)] mixed rfl (by kernel_rfl) (fun w9 H9 => ?_)
          refine AO_p rfl H9 (Pu.toIf (Pu_mv rfl)) rfl ?_
          refine AO_p rfl H9 (Pu.toIf (Pu_nil rfl)) rfl ?_
          refine AO_p rfl H9 (Pu.toIf (Pu_fld rfl fi76_0)) rfl ?_
          first | (refine AO_p rfl H9 (Ld rfl fl24 (fun w h => (h.cell (j := 2) rfl (i := x * 9) (by omega)).trans (congrArg some hw0))) rfl ?_) | (refine AO_p rfl H9 (Ld rfl fl24 (fun w h => (h.ucell (j := 1) rfl hxm hrb (i := r.len - 1) (by omega)).trans (congrArg some htop))) rfl ?_)
          refine AO_p rfl H9 (Pu.toIf (Pu_len rfl sl24 rfl)) rfl ?_
          refine AO_p rfl H9 (Pu.toIf (Pu_gtr rfl rfl)) rfl ?_
          refine AO_p rfl H9 (Pu.toIf (Pu_mv rfl)) rfl ?_
          refine AO_gP rfl rfl rfl (fun g64 => ?_) (fun g64 => ?_)
          · have hpos : 0 < r.len := by omega
            obtain ⟨rb, hrb, hrv⟩ := H9.ublk (j := 1) rfl hxm hpos
            obtain ⟨q, hq1, hq2, hq3, hq4⟩ := hi.rows x hxm (r.len - 1) (by omega)
            have htop : r.c (r.len - 1) = .int .i32 (h.T q) := by rw [hrc _ (by omega), hq4]
            have hTq := (ho.ok q (by omega)).1
            refine AO_yes rfl rfl rfl H9 (Pu.toIf (Pu_mv rfl)) rfl ?_
            refine AO_yes rfl rfl rfl H9 (Pu.toIf (Pu_mv rfl)) rfl ?_
            refine AO_yes rfl rfl rfl H9 (Pu.toIf (Pu_nil rfl)) rfl ?_
            refine AO_yes rfl rfl rfl H9 (Pu.toIf (Pu_fld rfl fi76_0)) rfl ?_
            first | (refine AO_yes rfl rfl rfl H9 (Ld rfl fl24 (fun w h => (h.cell (j := 2) rfl (i := x * 9) (by omega)).trans (congrArg some hw0))) rfl ?_) | (refine AO_yes rfl rfl rfl H9 (Ld rfl fl24 (fun w h => (h.ucell (j := 1) rfl hxm hrb (i := r.len - 1) (by omega)).trans (congrArg some htop))) rfl ?_)
            refine AO_yes rfl rfl rfl H9 (Pu.toIf (Pu_mv rfl)) rfl ?_
            refine AO_yes rfl rfl rfl H9 (Pu.toIf (Pu_nil rfl)) rfl ?_
            refine AO_yes rfl rfl rfl H9 (Pu.toIf (Pu_fld rfl fi76_0)) rfl ?_
            first | (refine AO_yes rfl rfl rfl H9 (Ld rfl fl24 (fun w h => (h.cell (j := 2) rfl (i := x * 9) (by omega)).trans (congrArg some hw0))) rfl ?_) | (refine AO_yes rfl rfl rfl H9 (Ld rfl fl24 (fun w h => (h.ucell (j := 1) rfl hxm hrb (i := r.len - 1) (by omega)).trans (congrArg some htop))) rfl ?_)
            refine AO_yes rfl rfl rfl H9 (Pu.toIf (Pu_len rfl sl24 rfl)) rfl ?_
            refine AO_yes rfl rfl rfl H9 (Pu.toIf (Pu_sub rfl rfl (w64 (by omega)))) rfl ?_
            refine AO_yes rfl rfl rfl H9 (Pu.toIf (Pu_ix (j := r.len - 1) (congrArg some hrv) rfl sl24 (by omega) (by omega))) rfl ?_
            first | (refine AO_yes rfl rfl rfl H9 (Ld rfl fl21 (fun w h => (h.cell (j := 2) rfl (i := x * 9) (by omega)).trans (congrArg some hw0))) rfl ?_) | (refine AO_yes rfl rfl rfl H9 (Ld rfl fl21 (fun w h => (h.ucell (j := 1) rfl hxm hrb (i := r.len - 1) (by omega)).trans (congrArg some htop))) rfl ?_)
            refine AO_yes rfl rfl rfl H9 (Pu.toIf (Pu_mv rfl)) rfl ?_
            refine AO_Ly rfl rfl rfl rfl (Lo_call ca43 rfl ((endsBy43 H9 hin8 hE8 hTq (by omega) 97).mono (fun y w10 hh => ?_)))
            obtain ⟨⟨bb, hy, hbb⟩, H10⟩ := hh
            refine ⟨_, hy, H10, ?_⟩
            refine AO_p rfl H10 (Pu.toIf (Pu_pt rfl rfl)) rfl ?_
            refine AO_nil ?_
            first | refine CE_cP rfl (fun c80 => ?_) (fun c80 => ?_) | refine CE_cN rfl (fun c80 => ?_) (fun c80 => ?_) | refine CE_cond rfl (fun c80 => ?_) (fun c80 => ?_)
            · refine CE_skip ?_
              refine CE_block ?_
              refine CE_drawH H10 (fun w => w.cell? ⟨ib, x * 9, none⟩ = some r.val) [(0, 0), (1, 0), (2, 0), (3, 0), (4, 0), (5, 0), (6, 0), (7, 0), (8, 0), (9, 0), (10, 0), (11, 0), (12, 0), (13, 0), (14, 2)] mixed rfl (by kernel_rfl) (fun w11 H11 => ?_)
              have hS14 := (H11.cell (j := 2) rfl (i := x * 9) (by omega)).trans (congrArg some hw0)
              refine AO_p rfl hS14 (Pu.toIf (Pu_mv rfl)) rfl ?_
              refine AO_p rfl hS14 (Pu.toIf (Pu_mv rfl)) rfl ?_
              refine AO_p rfl hS14 (Pu.toIf (Pu_nil rfl)) rfl ?_
              refine AO_p rfl hS14 (Pu.toIf (Pu_fld rfl fi76_0)) rfl ?_
              refine AO_p rfl hS14 (Ld rfl fl24 (fun w h => h)) rfl ?_
              refine AO_p rfl hS14 (Pu.toIf (Pu_mv rfl)) rfl ?_
              refine AO_p rfl hS14 (Pu.toIf (Pu_nil rfl)) rfl ?_
              refine AO_p rfl hS14 (Pu.toIf (Pu_fld rfl fi76_0)) rfl ?_
              refine AO_p rfl hS14 (Ld rfl fl24 (fun w h => h)) rfl ?_
              refine AO_p rfl hS14 (Pu.toIf (Pu_len rfl sl24 rfl)) rfl ?_
              refine AO_p rfl hS14 (Pu.toIf (Pu_sub rfl rfl (w64 (by omega)))) rfl ?_
              refine AO_p rfl hS14 (Pu.toIf (Pu_res (h := r.len - 1) rfl rfl sl24 (by omega) (by have := H11.ucap (j := 1) rfl hxm; omega))) rfl ?_
              refine AO_p rfl hS14 (Pu.toIf (Pu_nil rfl)) rfl ?_
              refine AO_p rfl hS14 (Pu.toIf (Pu_fld rfl fi76_0)) rfl ?_
              refine AO_S0 rfl (Lo_st (j := 2) (i := x * 9) H11 rfl rfl rfl fl24 rfl (by omega) (fun w12 H12 => ?_))
              refine AO_nil ?_
              have H13 := H12.ucut (j := 1) rfl hxm (h := r.len - 1) (by omega)
              have H14 := H13.congr (j := 2) rfl (g := itemsF (updR g.R x ⟨r.blk, r.len - 1, r.cap, r.c⟩) g.W g.D) (fun k _ => by
                have := itemsF_row (updR g.R x r) g.W g.D x ⟨r.blk, r.len - 1, r.cap, r.c⟩ k
                rw [updR_updR] at this
                exact this)
              exact ⟨⟨r.blk, r.len - 1, r.cap, r.c⟩, by dsimp only; omega, ⟨rfl, rfl, rfl, rfl, rfl, rfl, rfl, rfl, rfl, rfl, rfl, rfl, rfl, trivial⟩, by dsimp only; omega, fun i hi' => hrc i (by dsimp only at hi'; omega), H14⟩
            · refine CE_exit ?_
              have hfin : ∀ u : Nat, u < h.nt → r.c (r.len - 1) = .int .i32 u → ¬ EndsBy h E u 97 g.p := by
                intro u hu hc hh
                have hu1 : u = h.T q := by
                  rw [htop] at hc
                  simp only [Value.int.injEq, true_and] at hc
                  omega
                rw [hu1] at hh
                rw [hbb.2 hh] at c80
                cases c80
              exact ⟨r, ⟨hrl, hrc, fun _ => hfin, H10⟩, ⟨rfl, rfl, rfl, rfl, rfl, rfl, rfl, rfl, rfl, rfl, rfl, rfl, rfl, trivial⟩⟩
          · refine AO_no rfl rfl rfl rfl H9 rfl ?_
            refine AO_no rfl rfl rfl rfl H9 rfl ?_
            refine AO_no rfl rfl rfl rfl H9 rfl ?_
            refine AO_no rfl rfl rfl rfl H9 rfl ?_
            refine AO_no rfl rfl rfl rfl H9 rfl ?_
            refine AO_no rfl rfl rfl rfl H9 rfl ?_
            refine AO_no rfl rfl rfl rfl H9 rfl ?_
            refine AO_no rfl rfl rfl rfl H9 rfl ?_
            refine AO_no rfl rfl rfl rfl H9 rfl ?_
            refine AO_no rfl rfl rfl rfl H9 rfl ?_
            refine AO_no rfl rfl rfl rfl H9 rfl ?_
            refine AO_no rfl rfl rfl rfl H9 rfl ?_
            refine AO_no rfl rfl rfl rfl H9 rfl ?_
            refine AO_no rfl rfl rfl rfl H9 rfl ?_
            refine AO_nok rfl rfl rfl rfl H9 rfl ?_
            refine AO_p rfl H9 (Pu.toIf (Pu_pf rfl rfl)) rfl ?_
            refine AO_nil ?_
            refine CE_cond_f rfl ?_
            refine CE_exit ?_
            exact ⟨r, ⟨hrl, hrc, fun hp0 => absurd hp0 (by omega), H9⟩, ⟨rfl, rfl, rfl, rfl, rfl, rfl, rfl, rfl, rfl, rfl, rfl, rfl, rfl, trivial⟩⟩
        obtain ⟨hrl, hrc, hrna, H8⟩ := hmid
        have hlen := hi.len x hxm
        have hw0 : itemsF (updR g.R x r') g.W g.D (x * 9) = r'.val := by rw [itemsF_0, updR_self]
        have hin8 : InL h (Blk vb 3 (cellsF [.int .u8 (h.A g.p), .int .i64 0, .string ByteArray.empty]) :: Fam h.m 1 21 (updR g.R x r') :: Blk ib (h.m * 9) (itemsF (updR g.R x r') (g.W) (g.D)) :: L) := ((hin.cons _).cons _).cons _
        have hE8 : EOK h E ze be (Blk vb 3 (cellsF [.int .u8 (h.A g.p), .int .i64 0, .string ByteArray.empty]) :: Fam h.m 1 21 (updR g.R x r') :: Blk ib (h.m * 9) (itemsF (updR g.R x r') (g.W) (g.D)) :: L) := ((hE.cons _).cons _).cons _
        refine CE_midG (fun (fl : Bool × Bool) => [(0, .pointer (some ⟨h.hb, 0, none⟩)), (2, .bool (fl.1)), (3, .bool (fl.2)), (4, .bool (st')), (5, .bool (g.rg)), (6, .slice (some ⟨ib, 0, none⟩) h.m h.m), (21, .slice (some ⟨h.ob, 0, none⟩) h.n h.n), (22, .int .i64 h.n), (23, .int .i64 g.p), (7, .int .i64 g.p), (8, .pointer (some ⟨vb, 0, none⟩)), (10, .int .i32 (h.T g.p)), (11, .pointer (some ⟨ib, x * 9, none⟩))]) (fun fl w' => (fl.2 = false → g.aca = false ∨ BadS h E g.p) ∧ (fl.1 = false → fl.2 = false) ∧ HP W0 w' (Blk vb 3 (cellsF [.int .u8 (h.A g.p), .int .i64 0, .string ByteArray.empty]) :: Fam h.m 1 21 (updR g.R x r') :: Blk ib (h.m * 9) (itemsF (updR g.R x r') (g.W) (g.D)) :: L)) ?_ (fun fl w9 hmid => ?_)
        · refine CE_seq ?_
          refine CE_drawH H8 (fun w => HP W0 w (Blk vb 3 (cellsF [.int .u8 (h.A g.p), .int .i64 0, .string ByteArray.empty]) :: Fam h.m 1 21 (updR g.R x r') :: Blk ib (h.m * 9) (itemsF (updR g.R x r') (g.W) (g.D)) :: L)) [(0, 0), (1, 0), (2, 0), (3, 0), (4, 0), (5, 0), (6, 0), (7, 0), (8, 0), (9, 0), (10, 0), (11, 0), (12, 0), (13, 0), (14, 0), (15, 0), (16, 0), (17, 0), (18, 0), (19, 0), (20, 0), (21, 0)] mixed rfl (by kernel_rfl) (fun w9 H9 => ?_)
          refine AO_p rfl H9 (Pu.toIf (Pu_mv rfl)) rfl ?_
          refine AO_p rfl H9 (Pu.toIf (Pu_nil rfl)) rfl ?_
          refine AO_p rfl H9 (Pu.toIf (Pu_fld rfl fi76_0)) rfl ?_
          first | (refine AO_p rfl H9 (Ld rfl fl24 (fun w h => (h.cell (j := 2) rfl (i := x * 9) (by omega)).trans (congrArg some hw0))) rfl ?_) | (refine AO_p rfl H9 (Ld rfl fl24 (fun w h => (h.ucell (j := 1) rfl hxm hrb (i := r'.len - 1) (by omega)).trans (congrArg some htop))) rfl ?_)
          refine AO_p rfl H9 (Pu.toIf (Pu_len rfl sl24 rfl)) rfl ?_
          refine AO_p rfl H9 (Pu.toIf (Pu_gtr rfl rfl)) rfl ?_
          refine AO_p rfl H9 (Pu.toIf (Pu_mv rfl)) rfl ?_
          refine AO_gP rfl rfl rfl (fun g101 => ?_) (fun g101 => ?_)
          · have hpos : 0 < r'.len := by omega
            obtain ⟨rb, hrb, hrv⟩ := H9.ublk (j := 1) rfl hxm hpos
            obtain ⟨q, hq1, hq2, hq3, hq4⟩ := hi.rows x hxm (r'.len - 1) (by omega)
            have htop : r'.c (r'.len - 1) = .int .i32 (h.T q) := by rw [hrc _ (by omega), hq4]
            have hTq := (ho.ok q (by omega)).1
            have hna := hrna hpos (h.T q) hTq htop
            refine AO_yes rfl rfl rfl H9 (Pu.toIf (Pu_mv rfl)) rfl ?_
            refine AO_yes rfl rfl rfl H9 (Pu.toIf (Pu_nil rfl)) rfl ?_
            refine AO_yes rfl rfl rfl H9 (Pu.toIf (Pu_fld rfl fi76_0)) rfl ?_
            first | (refine AO_yes rfl rfl rfl H9 (Ld rfl fl24 (fun w h => (h.cell (j := 2) rfl (i := x * 9) (by omega)).trans (congrArg some hw0))) rfl ?_) | (refine AO_yes rfl rfl rfl H9 (Ld rfl fl24 (fun w h => (h.ucell (j := 1) rfl hxm hrb (i := r'.len - 1) (by omega)).trans (congrArg some htop))) rfl ?_)
            refine AO_yes rfl rfl rfl H9 (Pu.toIf (Pu_mv rfl)) rfl ?_
            refine AO_yes rfl rfl rfl H9 (Pu.toIf (Pu_nil rfl)) rfl ?_
            refine AO_yes rfl rfl rfl H9 (Pu.toIf (Pu_fld rfl fi76_0)) rfl ?_
            first | (refine AO_yes rfl rfl rfl H9 (Ld rfl fl24 (fun w h => (h.cell (j := 2) rfl (i := x * 9) (by omega)).trans (congrArg some hw0))) rfl ?_) | (refine AO_yes rfl rfl rfl H9 (Ld rfl fl24 (fun w h => (h.ucell (j := 1) rfl hxm hrb (i := r'.len - 1) (by omega)).trans (congrArg some htop))) rfl ?_)
            refine AO_yes rfl rfl rfl H9 (Pu.toIf (Pu_len rfl sl24 rfl)) rfl ?_
            refine AO_yes rfl rfl rfl H9 (Pu.toIf (Pu_sub rfl rfl (w64 (by omega)))) rfl ?_
            refine AO_yes rfl rfl rfl H9 (Pu.toIf (Pu_ix (j := r'.len - 1) (congrArg some hrv) rfl sl24 (by omega) (by omega))) rfl ?_
            first | (refine AO_yes rfl rfl rfl H9 (Ld rfl fl21 (fun w h => (h.cell (j := 2) rfl (i := x * 9) (by omega)).trans (congrArg some hw0))) rfl ?_) | (refine AO_yes rfl rfl rfl H9 (Ld rfl fl21 (fun w h => (h.ucell (j := 1) rfl hxm hrb (i := r'.len - 1) (by omega)).trans (congrArg some htop))) rfl ?_)
            refine AO_yes rfl rfl rfl H9 (Pu.toIf (Pu_mv rfl)) rfl ?_
            refine AO_yes rfl rfl rfl H9 (Pu.toIf (Pu_neq rfl rfl)) rfl ?_
            refine AO_p rfl H9 (Pu.toIf (Pu_pt rfl rfl)) rfl ?_
            refine AO_nil ?_
            refine CE_cN rfl (fun c116 => ?_) (fun c116 => ?_)
            · have hne : h.T q ≠ h.T g.p := by omega
              refine CE_seq ?_
              refine CE_drawH H9 (fun w => HP W0 w (Blk vb 3 (cellsF [.int .u8 (h.A g.p), .int .i64 0, .string ByteArray.empty]) :: Fam h.m 1 21 (updR g.R x r') :: Blk ib (h.m * 9) (itemsF (updR g.R x r') (g.W) (g.D)) :: L)) [(0, 0), (1, 0), (2, 0), (3, 0), (4, 0), (5, 0), (6, 0), (7, 0), (8, 0), (9, 0), (10, 0), (11, 0), (12, 0)] mixed rfl (by kernel_rfl) (fun w10 H10 => ?_)
              refine AO_p rfl H10 (Pu.toIf (Pu_mv rfl)) rfl ?_
              refine AO_p rfl H10 (Pu.toIf (Pu_nil rfl)) rfl ?_
              refine AO_p rfl H10 (Pu.toIf (Pu_fld rfl fi76_0)) rfl ?_
              first | (refine AO_p rfl H10 (Ld rfl fl24 (fun w h => (h.cell (j := 2) rfl (i := x * 9) (by omega)).trans (congrArg some hw0))) rfl ?_) | (refine AO_p rfl H10 (Ld rfl fl24 (fun w h => (h.ucell (j := 1) rfl hxm hrb (i := r'.len - 1) (by omega)).trans (congrArg some htop))) rfl ?_)
              refine AO_p rfl H10 (Pu.toIf (Pu_mv rfl)) rfl ?_
              refine AO_p rfl H10 (Pu.toIf (Pu_nil rfl)) rfl ?_
              refine AO_p rfl H10 (Pu.toIf (Pu_fld rfl fi76_0)) rfl ?_
              first | (refine AO_p rfl H10 (Ld rfl fl24 (fun w h => (h.cell (j := 2) rfl (i := x * 9) (by omega)).trans (congrArg some hw0))) rfl ?_) | (refine AO_p rfl H10 (Ld rfl fl24 (fun w h => (h.ucell (j := 1) rfl hxm hrb (i := r'.len - 1) (by omega)).trans (congrArg some htop))) rfl ?_)
              refine AO_p rfl H10 (Pu.toIf (Pu_len rfl sl24 rfl)) rfl ?_
              refine AO_p rfl H10 (Pu.toIf (Pu_sub rfl rfl (w64 (by omega)))) rfl ?_
              refine AO_p rfl H10 (Pu.toIf (Pu_ix (j := r'.len - 1) (congrArg some hrv) rfl sl24 (by omega) (by omega))) rfl ?_
              first | (refine AO_p rfl H10 (Ld rfl fl21 (fun w h => (h.cell (j := 2) rfl (i := x * 9) (by omega)).trans (congrArg some hw0))) rfl ?_) | (refine AO_p rfl H10 (Ld rfl fl21 (fun w h => (h.ucell (j := 1) rfl hxm hrb (i := r'.len - 1) (by omega)).trans (congrArg some htop))) rfl ?_)
              refine AO_p rfl H10 (Pu.toIf (Pu_as rfl)) rfl ?_
              refine AO_nil ?_
              refine CE_seq ?_
              refine CE_seq ?_
              refine CE_reg ?_
              refine EL_p (Pu_mv rfl) rfl ?_
              refine EL_p (Pu_mv rfl) rfl ?_
              refine EL_p (Pu_mv rfl) rfl ?_
              refine EL_L rfl (Lo_call ca43 rfl ((endsBy43 H10 hin8 hE8 hTq (by omega) 99).mono (fun y w11 hh => ?_)))
              obtain ⟨⟨b1, hy1, hb1⟩, H11⟩ := hh
              refine ⟨_, hy1, ?_⟩
              refine EL_p (Pu_not rfl) rfl ?_
              refine EL_nil ?_
              refine CE_cB rfl (fun c133 => ?_) (fun c133 => ?_)
              · refine CE_reg ?_
                refine EL_p (Pu_as rfl) rfl ?_
                refine EL_nil ?_
                refine CE_seq ?_
                refine CE_reg ?_
                refine EL_p (Pu_mv rfl) rfl ?_
                refine EL_p (Pu_mv rfl) rfl ?_
                refine EL_p (Pu_mv rfl) rfl ?_
                refine EL_p (Pu_nil rfl) rfl ?_
                refine EL_p (Pu_fld rfl fi59_0) rfl ?_
                first | (refine EL_ld rfl fl54 (H11.cellM hin8.mh (by decide)) rfl ?_) | (refine EL_ld rfl fl54 (H12.cellM hin8.mh (by decide)) rfl ?_) | (refine EL_ld rfl fl54 (H12.acellM hE8.me hT) rfl ?_)
                refine EL_p (Pu_len rfl sl54 rfl) rfl ?_
                refine EL_L rfl (Lo_call ca43 rfl ((endsBy43 H11 hin8 hE8 hT (Nat.le_refl _) 99).mono (fun y w12 hh => ?_)))
                obtain ⟨⟨b2, hy2, hb2⟩, H12⟩ := hh
                refine ⟨_, hy2, ?_⟩
                refine EL_p (Pu_mv rfl) rfl ?_
                refine EL_gB rfl rfl (fun g142 => ?_) (fun g142 => ?_)
                · refine EL_yes rfl rfl ?_
                  refine EL_p (Pu_mv rfl) rfl ?_
                  refine EL_yes rfl rfl ?_
                  refine EL_p (Pu_mv rfl) rfl ?_
                  refine EL_yes rfl rfl ?_
                  refine EL_p (Pu_mv rfl) rfl ?_
                  refine EL_yes rfl rfl ?_
                  refine EL_p (Pu_nil rfl) rfl ?_
                  refine EL_yes rfl rfl ?_
                  refine EL_p (Pu_fld rfl fi59_6) rfl ?_
                  refine EL_yes rfl rfl ?_
                  first | (refine EL_ld rfl fl23 (H11.cellM hin8.mh (by decide)) rfl ?_) | (refine EL_ld rfl fl23 (H12.cellM hin8.mh (by decide)) rfl ?_) | (refine EL_ld rfl fl23 (H12.acellM hE8.me hT) rfl ?_)
                  refine EL_yes rfl rfl ?_
                  refine EL_p (Pu_mv rfl) rfl ?_
                  refine EL_yes rfl rfl ?_
                  refine EL_p (Pu_ixA (congrArg some hE.ve) rfl sl23 rfl hT (H12.anzM hE8.me hT)) rfl ?_
                  refine EL_yes rfl rfl ?_
                  first | (refine EL_ld rfl fl3 (H11.cellM hin8.mh (by decide)) rfl ?_) | (refine EL_ld rfl fl3 (H12.cellM hin8.mh (by decide)) rfl ?_) | (refine EL_ld rfl fl3 (H12.acellM hE8.me hT) rfl ?_)
                  refine EL_yes rfl rfl ?_
                  refine EL_L rfl (Lo_call ca43 rfl ((endsBy43 H12 hin8 hE8 hTq (he.rng _ hT) 99).mono (fun y w13 hh => ?_)))
                  obtain ⟨⟨b3, hy3, hb3⟩, H13⟩ := hh
                  refine ⟨_, hy3, ?_⟩
                  refine EL_yes rfl rfl ?_
                  refine EL_p (Pu_not rfl) rfl ?_
                  refine EL_p (Pu_pt rfl rfl) rfl ?_
                  refine EL_nil ?_
                  refine CE_cB rfl (fun c154 => ?_) (fun c154 => ?_)
                  · refine CE_reg ?_
                    refine EL_p (Pu_as rfl) rfl ?_
                    refine EL_nil ?_
                    first
                    | exact ⟨(g.rc, g.aca), ⟨fun hh => .inl hh, hi.rc, H9⟩, ⟨rfl, rfl, rfl, rfl, rfl, rfl, rfl, rfl, rfl, rfl, rfl, rfl, rfl, trivial⟩⟩
                    | exact ⟨(false, false), ⟨fun _ => .inr (bad_of_source ho he hlt hx hq1 hq2 hq3 hne hna (fun hh => by rw [hb1.2 hh] at c133; cases c133)), fun _ => rfl, H13⟩, ⟨rfl, rfl, rfl, rfl, rfl, rfl, rfl, rfl, rfl, rfl, rfl, rfl, rfl, trivial⟩⟩
                    | exact ⟨(g.rc, false), ⟨fun _ => .inr (bad_of_source ho he hlt hx hq1 hq2 hq3 hne hna (fun hh => by rw [hb1.2 hh] at c133; cases c133)), fun _ => rfl, H13⟩, ⟨rfl, rfl, rfl, rfl, rfl, rfl, rfl, rfl, rfl, rfl, rfl, rfl, rfl, trivial⟩⟩
                    | exact ⟨(g.rc, false), ⟨fun _ => .inr (bad_of_source ho he hlt hx hq1 hq2 hq3 hne hna (fun hh => by rw [hb1.2 hh] at c133; cases c133)), fun _ => rfl, H12⟩, ⟨rfl, rfl, rfl, rfl, rfl, rfl, rfl, rfl, rfl, rfl, rfl, rfl, rfl, trivial⟩⟩
                    | exact ⟨(g.rc, g.aca), ⟨fun hh => .inl hh, hi.rc, H13⟩, ⟨rfl, rfl, rfl, rfl, rfl, rfl, rfl, rfl, rfl, rfl, rfl, rfl, rfl, trivial⟩⟩
                    | exact ⟨(g.rc, g.aca), ⟨fun hh => .inl hh, hi.rc, H12⟩, ⟨rfl, rfl, rfl, rfl, rfl, rfl, rfl, rfl, rfl, rfl, rfl, rfl, rfl, trivial⟩⟩
                    | (exfalso; have h9 := hb3.2 (committed_before he hlt (hb1.1 c133)); rw [h9] at c154; cases c154)
                  · refine CE_skip ?_
                    first
                    | exact ⟨(g.rc, g.aca), ⟨fun hh => .inl hh, hi.rc, H9⟩, ⟨rfl, rfl, rfl, rfl, rfl, rfl, rfl, rfl, rfl, rfl, rfl, rfl, rfl, trivial⟩⟩
                    | exact ⟨(false, false), ⟨fun _ => .inr (bad_of_source ho he hlt hx hq1 hq2 hq3 hne hna (fun hh => by rw [hb1.2 hh] at c133; cases c133)), fun _ => rfl, H13⟩, ⟨rfl, rfl, rfl, rfl, rfl, rfl, rfl, rfl, rfl, rfl, rfl, rfl, rfl, trivial⟩⟩
                    | exact ⟨(g.rc, false), ⟨fun _ => .inr (bad_of_source ho he hlt hx hq1 hq2 hq3 hne hna (fun hh => by rw [hb1.2 hh] at c133; cases c133)), fun _ => rfl, H13⟩, ⟨rfl, rfl, rfl, rfl, rfl, rfl, rfl, rfl, rfl, rfl, rfl, rfl, rfl, trivial⟩⟩
                    | exact ⟨(g.rc, false), ⟨fun _ => .inr (bad_of_source ho he hlt hx hq1 hq2 hq3 hne hna (fun hh => by rw [hb1.2 hh] at c133; cases c133)), fun _ => rfl, H12⟩, ⟨rfl, rfl, rfl, rfl, rfl, rfl, rfl, rfl, rfl, rfl, rfl, rfl, rfl, trivial⟩⟩
                    | exact ⟨(g.rc, g.aca), ⟨fun hh => .inl hh, hi.rc, H13⟩, ⟨rfl, rfl, rfl, rfl, rfl, rfl, rfl, rfl, rfl, rfl, rfl, rfl, rfl, trivial⟩⟩
                    | exact ⟨(g.rc, g.aca), ⟨fun hh => .inl hh, hi.rc, H12⟩, ⟨rfl, rfl, rfl, rfl, rfl, rfl, rfl, rfl, rfl, rfl, rfl, rfl, rfl, trivial⟩⟩
                    | (exfalso; have h9 := hb3.2 (committed_before he hlt (hb1.1 c133)); rw [h9] at c154; cases c154)
                · refine EL_no rfl rfl rfl rfl ?_
                  refine EL_no rfl rfl rfl rfl ?_
                  refine EL_no rfl rfl rfl rfl ?_
                  refine EL_no rfl rfl rfl rfl ?_
                  refine EL_no rfl rfl rfl rfl ?_
                  refine EL_no rfl rfl rfl rfl ?_
                  refine EL_no rfl rfl rfl rfl ?_
                  refine EL_no rfl rfl rfl rfl ?_
                  refine EL_no rfl rfl rfl rfl ?_
                  refine EL_no rfl rfl rfl rfl ?_
                  refine EL_no rfl rfl rfl rfl ?_
                  refine EL_p (Pu_pf rfl rfl) rfl ?_
                  refine EL_nil ?_
                  refine CE_cond_f rfl ?_
                  refine CE_skip ?_
                  first
                  | exact ⟨(g.rc, g.aca), ⟨fun hh => .inl hh, hi.rc, H9⟩, ⟨rfl, rfl, rfl, rfl, rfl, rfl, rfl, rfl, rfl, rfl, rfl, rfl, rfl, trivial⟩⟩
                  | exact ⟨(false, false), ⟨fun _ => .inr (bad_of_source ho he hlt hx hq1 hq2 hq3 hne hna (fun hh => by rw [hb1.2 hh] at c133; cases c133)), fun _ => rfl, H13⟩, ⟨rfl, rfl, rfl, rfl, rfl, rfl, rfl, rfl, rfl, rfl, rfl, rfl, rfl, trivial⟩⟩
                  | exact ⟨(g.rc, false), ⟨fun _ => .inr (bad_of_source ho he hlt hx hq1 hq2 hq3 hne hna (fun hh => by rw [hb1.2 hh] at c133; cases c133)), fun _ => rfl, H13⟩, ⟨rfl, rfl, rfl, rfl, rfl, rfl, rfl, rfl, rfl, rfl, rfl, rfl, rfl, trivial⟩⟩
                  | exact ⟨(g.rc, false), ⟨fun _ => .inr (bad_of_source ho he hlt hx hq1 hq2 hq3 hne hna (fun hh => by rw [hb1.2 hh] at c133; cases c133)), fun _ => rfl, H12⟩, ⟨rfl, rfl, rfl, rfl, rfl, rfl, rfl, rfl, rfl, rfl, rfl, rfl, rfl, trivial⟩⟩
                  | exact ⟨(g.rc, g.aca), ⟨fun hh => .inl hh, hi.rc, H13⟩, ⟨rfl, rfl, rfl, rfl, rfl, rfl, rfl, rfl, rfl, rfl, rfl, rfl, rfl, trivial⟩⟩
                  | exact ⟨(g.rc, g.aca), ⟨fun hh => .inl hh, hi.rc, H12⟩, ⟨rfl, rfl, rfl, rfl, rfl, rfl, rfl, rfl, rfl, rfl, rfl, rfl, rfl, trivial⟩⟩
                  | (exfalso; have h9 := hb3.2 (committed_before he hlt (hb1.1 c133)); rw [h9] at c154; cases c154)
              · refine CE_skip ?_
                refine CE_seq ?_
                refine CE_reg ?_
                refine EL_p (Pu_mv rfl) rfl ?_
                refine EL_p (Pu_mv rfl) rfl ?_
                refine EL_p (Pu_mv rfl) rfl ?_
                refine EL_p (Pu_nil rfl) rfl ?_
                refine EL_p (Pu_fld rfl fi59_0) rfl ?_
                first | (refine EL_ld rfl fl54 (H11.cellM hin8.mh (by decide)) rfl ?_) | (refine EL_ld rfl fl54 (H12.cellM hin8.mh (by decide)) rfl ?_) | (refine EL_ld rfl fl54 (H12.acellM hE8.me hT) rfl ?_)
                refine EL_p (Pu_len rfl sl54 rfl) rfl ?_
                refine EL_L rfl (Lo_call ca43 rfl ((endsBy43 H11 hin8 hE8 hT (Nat.le_refl _) 99).mono (fun y w12 hh => ?_)))
                obtain ⟨⟨b2, hy2, hb2⟩, H12⟩ := hh
                refine ⟨_, hy2, ?_⟩
                refine EL_p (Pu_mv rfl) rfl ?_
                refine EL_gB rfl rfl (fun g142 => ?_) (fun g142 => ?_)
                · refine EL_yes rfl rfl ?_
                  refine EL_p (Pu_mv rfl) rfl ?_
                  refine EL_yes rfl rfl ?_
                  refine EL_p (Pu_mv rfl) rfl ?_
                  refine EL_yes rfl rfl ?_
                  refine EL_p (Pu_mv rfl) rfl ?_
                  refine EL_yes rfl rfl ?_
                  refine EL_p (Pu_nil rfl) rfl ?_
                  refine EL_yes rfl rfl ?_
                  refine EL_p (Pu_fld rfl fi59_6) rfl ?_
                  refine EL_yes rfl rfl ?_
                  first | (refine EL_ld rfl fl23 (H11.cellM hin8.mh (by decide)) rfl ?_) | (refine EL_ld rfl fl23 (H12.cellM hin8.mh (by decide)) rfl ?_) | (refine EL_ld rfl fl23 (H12.acellM hE8.me hT) rfl ?_)
                  refine EL_yes rfl rfl ?_
                  refine EL_p (Pu_mv rfl) rfl ?_
                  refine EL_yes rfl rfl ?_
                  refine EL_p (Pu_ixA (congrArg some hE.ve) rfl sl23 rfl hT (H12.anzM hE8.me hT)) rfl ?_
                  refine EL_yes rfl rfl ?_
                  first | (refine EL_ld rfl fl3 (H11.cellM hin8.mh (by decide)) rfl ?_) | (refine EL_ld rfl fl3 (H12.cellM hin8.mh (by decide)) rfl ?_) | (refine EL_ld rfl fl3 (H12.acellM hE8.me hT) rfl ?_)
                  refine EL_yes rfl rfl ?_
                  refine EL_L rfl (Lo_call ca43 rfl ((endsBy43 H12 hin8 hE8 hTq (he.rng _ hT) 99).mono (fun y w13 hh => ?_)))
                  obtain ⟨⟨b3, hy3, hb3⟩, H13⟩ := hh
                  refine ⟨_, hy3, ?_⟩
                  refine EL_yes rfl rfl ?_
                  refine EL_p (Pu_not rfl) rfl ?_
                  refine EL_p (Pu_pt rfl rfl) rfl ?_
                  refine EL_nil ?_
                  refine CE_cB rfl (fun c154 => ?_) (fun c154 => ?_)
                  · refine CE_reg ?_
                    refine EL_p (Pu_as rfl) rfl ?_
                    refine EL_nil ?_
                    first
                    | exact ⟨(g.rc, g.aca), ⟨fun hh => .inl hh, hi.rc, H9⟩, ⟨rfl, rfl, rfl, rfl, rfl, rfl, rfl, rfl, rfl, rfl, rfl, rfl, rfl, trivial⟩⟩
                    | exact ⟨(false, false), ⟨fun _ => .inr (bad_of_source ho he hlt hx hq1 hq2 hq3 hne hna (fun hh => by rw [hb1.2 hh] at c133; cases c133)), fun _ => rfl, H13⟩, ⟨rfl, rfl, rfl, rfl, rfl, rfl, rfl, rfl, rfl, rfl, rfl, rfl, rfl, trivial⟩⟩
                    | exact ⟨(g.rc, false), ⟨fun _ => .inr (bad_of_source ho he hlt hx hq1 hq2 hq3 hne hna (fun hh => by rw [hb1.2 hh] at c133; cases c133)), fun _ => rfl, H13⟩, ⟨rfl, rfl, rfl, rfl, rfl, rfl, rfl, rfl, rfl, rfl, rfl, rfl, rfl, trivial⟩⟩
                    | exact ⟨(g.rc, false), ⟨fun _ => .inr (bad_of_source ho he hlt hx hq1 hq2 hq3 hne hna (fun hh => by rw [hb1.2 hh] at c133; cases c133)), fun _ => rfl, H12⟩, ⟨rfl, rfl, rfl, rfl, rfl, rfl, rfl, rfl, rfl, rfl, rfl, rfl, rfl, trivial⟩⟩
                    | exact ⟨(g.rc, g.aca), ⟨fun hh => .inl hh, hi.rc, H13⟩, ⟨rfl, rfl, rfl, rfl, rfl, rfl, rfl, rfl, rfl, rfl, rfl, rfl, rfl, trivial⟩⟩
                    | exact ⟨(g.rc, g.aca), ⟨fun hh => .inl hh, hi.rc, H12⟩, ⟨rfl, rfl, rfl, rfl, rfl, rfl, rfl, rfl, rfl, rfl, rfl, rfl, rfl, trivial⟩⟩
                    | (exfalso; have h9 := hb3.2 (committed_before he hlt (hb1.1 c133)); rw [h9] at c154; cases c154)
                  · refine CE_skip ?_
                    first
                    | exact ⟨(g.rc, g.aca), ⟨fun hh => .inl hh, hi.rc, H9⟩, ⟨rfl, rfl, rfl, rfl, rfl, rfl, rfl, rfl, rfl, rfl, rfl, rfl, rfl, trivial⟩⟩
                    | exact ⟨(false, false), ⟨fun _ => .inr (bad_of_source ho he hlt hx hq1 hq2 hq3 hne hna (fun hh => by rw [hb1.2 hh] at c133; cases c133)), fun _ => rfl, H13⟩, ⟨rfl, rfl, rfl, rfl, rfl, rfl, rfl, rfl, rfl, rfl, rfl, rfl, rfl, trivial⟩⟩
                    | exact ⟨(g.rc, false), ⟨fun _ => .inr (bad_of_source ho he hlt hx hq1 hq2 hq3 hne hna (fun hh => by rw [hb1.2 hh] at c133; cases c133)), fun _ => rfl, H13⟩, ⟨rfl, rfl, rfl, rfl, rfl, rfl, rfl, rfl, rfl, rfl, rfl, rfl, rfl, trivial⟩⟩
                    | exact ⟨(g.rc, false), ⟨fun _ => .inr (bad_of_source ho he hlt hx hq1 hq2 hq3 hne hna (fun hh => by rw [hb1.2 hh] at c133; cases c133)), fun _ => rfl, H12⟩, ⟨rfl, rfl, rfl, rfl, rfl, rfl, rfl, rfl, rfl, rfl, rfl, rfl, rfl, trivial⟩⟩
                    | exact ⟨(g.rc, g.aca), ⟨fun hh => .inl hh, hi.rc, H13⟩, ⟨rfl, rfl, rfl, rfl, rfl, rfl, rfl, rfl, rfl, rfl, rfl, rfl, rfl, trivial⟩⟩
                    | exact ⟨(g.rc, g.aca), ⟨fun hh => .inl hh, hi.rc, H12⟩, ⟨rfl, rfl, rfl, rfl, rfl, rfl, rfl, rfl, rfl, rfl, rfl, rfl, rfl, trivial⟩⟩
                    | (exfalso; have h9 := hb3.2 (committed_before he hlt (hb1.1 c133)); rw [h9] at c154; cases c154)
                · refine EL_no rfl rfl rfl rfl ?_
                  refine EL_no rfl rfl rfl rfl ?_
                  refine EL_no rfl rfl rfl rfl ?_
                  refine EL_no rfl rfl rfl rfl ?_
                  refine EL_no rfl rfl rfl rfl ?_
                  refine EL_no rfl rfl rfl rfl ?_
                  refine EL_no rfl rfl rfl rfl ?_
                  refine EL_no rfl rfl rfl rfl ?_
                  refine EL_no rfl rfl rfl rfl ?_
                  refine EL_no rfl rfl rfl rfl ?_
                  refine EL_no rfl rfl rfl rfl ?_
                  refine EL_p (Pu_pf rfl rfl) rfl ?_
                  refine EL_nil ?_
                  refine CE_cond_f rfl ?_
                  refine CE_skip ?_
                  first
                  | exact ⟨(g.rc, g.aca), ⟨fun hh => .inl hh, hi.rc, H9⟩, ⟨rfl, rfl, rfl, rfl, rfl, rfl, rfl, rfl, rfl, rfl, rfl, rfl, rfl, trivial⟩⟩
                  | exact ⟨(false, false), ⟨fun _ => .inr (bad_of_source ho he hlt hx hq1 hq2 hq3 hne hna (fun hh => by rw [hb1.2 hh] at c133; cases c133)), fun _ => rfl, H13⟩, ⟨rfl, rfl, rfl, rfl, rfl, rfl, rfl, rfl, rfl, rfl, rfl, rfl, rfl, trivial⟩⟩
                  | exact ⟨(g.rc, false), ⟨fun _ => .inr (bad_of_source ho he hlt hx hq1 hq2 hq3 hne hna (fun hh => by rw [hb1.2 hh] at c133; cases c133)), fun _ => rfl, H13⟩, ⟨rfl, rfl, rfl, rfl, rfl, rfl, rfl, rfl, rfl, rfl, rfl, rfl, rfl, trivial⟩⟩
                  | exact ⟨(g.rc, false), ⟨fun _ => .inr (bad_of_source ho he hlt hx hq1 hq2 hq3 hne hna (fun hh => by rw [hb1.2 hh] at c133; cases c133)), fun _ => rfl, H12⟩, ⟨rfl, rfl, rfl, rfl, rfl, rfl, rfl, rfl, rfl, rfl, rfl, rfl, rfl, trivial⟩⟩
                  | exact ⟨(g.rc, g.aca), ⟨fun hh => .inl hh, hi.rc, H13⟩, ⟨rfl, rfl, rfl, rfl, rfl, rfl, rfl, rfl, rfl, rfl, rfl, rfl, rfl, trivial⟩⟩
                  | exact ⟨(g.rc, g.aca), ⟨fun hh => .inl hh, hi.rc, H12⟩, ⟨rfl, rfl, rfl, rfl, rfl, rfl, rfl, rfl, rfl, rfl, rfl, rfl, rfl, trivial⟩⟩
                  | (exfalso; have h9 := hb3.2 (committed_before he hlt (hb1.1 c133)); rw [h9] at c154; cases c154)
            · refine CE_skip ?_
              first
              | exact ⟨(g.rc, g.aca), ⟨fun hh => .inl hh, hi.rc, H9⟩, ⟨rfl, rfl, rfl, rfl, rfl, rfl, rfl, rfl, rfl, rfl, rfl, rfl, rfl, trivial⟩⟩
              | exact ⟨(false, false), ⟨fun _ => .inr (bad_of_source ho he hlt hx hq1 hq2 hq3 hne hna (fun hh => by rw [hb1.2 hh] at c133; cases c133)), fun _ => rfl, H13⟩, ⟨rfl, rfl, rfl, rfl, rfl, rfl, rfl, rfl, rfl, rfl, rfl, rfl, rfl, trivial⟩⟩
              | exact ⟨(g.rc, false), ⟨fun _ => .inr (bad_of_source ho he hlt hx hq1 hq2 hq3 hne hna (fun hh => by rw [hb1.2 hh] at c133; cases c133)), fun _ => rfl, H13⟩, ⟨rfl, rfl, rfl, rfl, rfl, rfl, rfl, rfl, rfl, rfl, rfl, rfl, rfl, trivial⟩⟩
              | exact ⟨(g.rc, false), ⟨fun _ => .inr (bad_of_source ho he hlt hx hq1 hq2 hq3 hne hna (fun hh => by rw [hb1.2 hh] at c133; cases c133)), fun _ => rfl, H12⟩, ⟨rfl, rfl, rfl, rfl, rfl, rfl, rfl, rfl, rfl, rfl, rfl, rfl, rfl, trivial⟩⟩
              | exact ⟨(g.rc, g.aca), ⟨fun hh => .inl hh, hi.rc, H13⟩, ⟨rfl, rfl, rfl, rfl, rfl, rfl, rfl, rfl, rfl, rfl, rfl, rfl, rfl, trivial⟩⟩
              | exact ⟨(g.rc, g.aca), ⟨fun hh => .inl hh, hi.rc, H12⟩, ⟨rfl, rfl, rfl, rfl, rfl, rfl, rfl, rfl, rfl, rfl, rfl, rfl, rfl, trivial⟩⟩
              | (exfalso; have h9 := hb3.2 (committed_before he hlt (hb1.1 c133)); rw [h9] at c154; cases c154)
          · refine AO_no rfl rfl rfl rfl H9 rfl ?_
            refine AO_no rfl rfl rfl rfl H9 rfl ?_
            refine AO_no rfl rfl rfl rfl H9 rfl ?_
            refine AO_no rfl rfl rfl rfl H9 rfl ?_
            refine AO_no rfl rfl rfl rfl H9 rfl ?_
            refine AO_no rfl rfl rfl rfl H9 rfl ?_
            refine AO_no rfl rfl rfl rfl H9 rfl ?_
            refine AO_no rfl rfl rfl rfl H9 rfl ?_
            refine AO_no rfl rfl rfl rfl H9 rfl ?_
            refine AO_no rfl rfl rfl rfl H9 rfl ?_
            refine AO_no rfl rfl rfl rfl H9 rfl ?_
            refine AO_no rfl rfl rfl rfl H9 rfl ?_
            refine AO_no rfl rfl rfl rfl H9 rfl ?_
            refine AO_no rfl rfl rfl rfl H9 rfl ?_
            refine AO_p rfl H9 (Pu.toIf (Pu_pf rfl rfl)) rfl ?_
            refine AO_nil ?_
            refine CE_cond_f rfl ?_
            refine CE_skip ?_
            first
            | exact ⟨(g.rc, g.aca), ⟨fun hh => .inl hh, hi.rc, H9⟩, ⟨rfl, rfl, rfl, rfl, rfl, rfl, rfl, rfl, rfl, rfl, rfl, rfl, rfl, trivial⟩⟩
            | exact ⟨(false, false), ⟨fun _ => .inr (bad_of_source ho he hlt hx hq1 hq2 hq3 hne hna (fun hh => by rw [hb1.2 hh] at c133; cases c133)), fun _ => rfl, H13⟩, ⟨rfl, rfl, rfl, rfl, rfl, rfl, rfl, rfl, rfl, rfl, rfl, rfl, rfl, trivial⟩⟩
            | exact ⟨(g.rc, false), ⟨fun _ => .inr (bad_of_source ho he hlt hx hq1 hq2 hq3 hne hna (fun hh => by rw [hb1.2 hh] at c133; cases c133)), fun _ => rfl, H13⟩, ⟨rfl, rfl, rfl, rfl, rfl, rfl, rfl, rfl, rfl, rfl, rfl, rfl, rfl, trivial⟩⟩
            | exact ⟨(g.rc, false), ⟨fun _ => .inr (bad_of_source ho he hlt hx hq1 hq2 hq3 hne hna (fun hh => by rw [hb1.2 hh] at c133; cases c133)), fun _ => rfl, H12⟩, ⟨rfl, rfl, rfl, rfl, rfl, rfl, rfl, rfl, rfl, rfl, rfl, rfl, rfl, trivial⟩⟩
            | exact ⟨(g.rc, g.aca), ⟨fun hh => .inl hh, hi.rc, H13⟩, ⟨rfl, rfl, rfl, rfl, rfl, rfl, rfl, rfl, rfl, rfl, rfl, rfl, rfl, trivial⟩⟩
            | exact ⟨(g.rc, g.aca), ⟨fun hh => .inl hh, hi.rc, H12⟩, ⟨rfl, rfl, rfl, rfl, rfl, rfl, rfl, rfl, rfl, rfl, rfl, rfl, rfl, trivial⟩⟩
            | (exfalso; have h9 := hb3.2 (committed_before he hlt (hb1.1 c133)); rw [h9] at c154; cases c154)
        obtain ⟨hfa, hfr, H9⟩ := hmid
        refine CE_drawH H9 (fun w => HP W0 w (Blk vb 3 (cellsF [.int .u8 (h.A g.p), .int .i64 0, .string ByteArray.empty]) :: Fam h.m 1 21 (updR g.R x r') :: Blk ib (h.m * 9) (itemsF (updR g.R x r') (g.W) (g.D)) :: L)) [(0, 0), (1, 0), (2, 0), (3, 0), (4, 0), (5, 0), (6, 0), (7, 0), (8, 0), (9, 0), (10, 0), (11, 2)] mixed rfl (by kernel_rfl) (fun w10 H10 => ?_)
        refine AO_p rfl H10 (Pu.toIf (Pu_mv rfl)) rfl ?_
        refine AO_p rfl H10 (Pu.toIf (Pu_nil rfl)) rfl ?_
        refine AO_p rfl H10 (Pu.toIf (Pu_fld rfl fi76_2)) rfl ?_
        refine AO_p rfl H10 (Pu.toIf (Pu_mv rfl)) rfl ?_
        refine AO_p rfl H10 (Pu.toIf (Pu_mv rfl)) rfl ?_
        refine AO_p rfl H10 (Pu.toIf (Pu_nil rfl)) rfl ?_
        refine AO_p rfl H10 (Pu.toIf (Pu_fld rfl fi59_6)) rfl ?_
        first | (refine AO_p rfl H10 (Ld rfl fl23 (fun w h => h.cellM hin8.mh (by decide))) rfl ?_) | (refine AO_p rfl H10 (Ld rfl fl23 (fun w h => h.acellM hE8.me hT)) rfl ?_)
        refine AO_p rfl H10 (Pu.toIf (Pu_mv rfl)) rfl ?_
        refine AO_p rfl H10 (Pu.toIf (Pu_ixA (congrArg some hE.ve) rfl sl23 rfl hT (H10.anzM hE8.me hT))) rfl ?_
        first | (refine AO_p rfl H10 (Ld rfl fl3 (fun w h => h.cellM hin8.mh (by decide))) rfl ?_) | (refine AO_p rfl H10 (Ld rfl fl3 (fun w h => h.acellM hE8.me hT)) rfl ?_)
        refine AO_S rfl rfl (Lo_call ca44 rfl ((add44 (j := 2) H10 rfl (by omega) (lcD (updR g.R x r') g.W g.D x) (h.T g.p) (E (h.T g.p))).mono (fun y w11 hh => ⟨_, hh.1, ?_⟩)))
        have H11 := hh.2
        refine AO_nil ?_
        refine CE_reg ?_
        refine EL_p (Pu_add rfl rfl (w64 (by omega))) rfl ?_
        refine EL_p (Pu_mv rfl) rfl ?_
        refine EL_nil ?_
        have H12 := H11.congr (j := 2) rfl (g := itemsF (updR g.R x r') g.W (fun y => if y = x then (g.D x).add (h.T g.p) (E (h.T g.p)) else g.D y)) (fun k _ => itemsF_D _ _ _ _ _ _)
        exact ⟨{ g with p := g.p + 1, rc := fl.1, aca := fl.2, st := st', R := updR g.R x r', D := fun y => if y = x then (g.D x).add (h.T g.p) (E (h.T g.p)) else g.D y }, by dsimp only; omega, ⟨rfl, rfl, rfl, rfl, rfl, rfl, rfl, rfl, rfl, trivial⟩,
          hi.read ho he hlt c56 hx hxm hst hrl hrc rfl hfa hfr, H12.tail⟩
      · refine CE_seq ?_
        refine CE_reg ?_
        refine EL_p (Pu_eql rfl rfl) rfl ?_
        refine EL_p (Pu_as rfl) rfl ?_
        refine EL_nil ?_
        refine CE_cP rfl (fun c167 => ?_) (fun c167 => ?_)
        · refine CE_midG (fun (rg' : Bool) => [(0, .pointer (some ⟨h.hb, 0, none⟩)), (2, .bool (g.rc)), (3, .bool (g.aca)), (4, .bool (st')), (5, .bool (rg')), (6, .slice (some ⟨ib, 0, none⟩) h.m h.m), (21, .slice (some ⟨h.ob, 0, none⟩) h.n h.n), (22, .int .i64 h.n), (23, .int .i64 g.p), (7, .int .i64 g.p), (8, .pointer (some ⟨vb, 0, none⟩)), (10, .int .i32 (h.T g.p)), (11, .pointer (some ⟨ib, x * 9, none⟩))]) (fun rg' w' => (rg' = false → g.rg = false ∨ BadG h E g.p) ∧ HP W0 w' (Blk vb 3 (cellsF [.int .u8 (h.A g.p), .int .i64 0, .string ByteArray.empty]) :: Fam h.m 1 21 (g.R) :: Blk ib (h.m * 9) (itemsF (g.R) (g.W) (g.D)) :: L)) ?_ (fun rg' w9 hmid => ?_)
          · refine CE_seq ?_
            refine CE_reg ?_
            refine EL_p (Pu_mv rfl) rfl ?_
            refine EL_p (Pu_nil rfl) rfl ?_
            refine EL_p (Pu_fld rfl fi76_2) rfl ?_
            refine EL_p (Pu_mv rfl) rfl ?_
            refine EL_L rfl (Lo_call ca42 rfl ((endAfter42 (j := 2) H7 rfl (by omega) (lcD g.R g.W g.D x) (h.T g.p)).mono (fun y w8 hh => ⟨_, hh.1, ?_⟩)))
            have H8 := hh.2
            refine EL_p (Pu_mv rfl) rfl ?_
            refine EL_p (Pu_gtr rfl rfl) rfl ?_
            refine EL_nil ?_
            refine CE_cP rfl (fun c175 => ?_) (fun c175 => ?_)
            · refine CE_reg ?_
              refine EL_p (Pu_as rfl) rfl ?_
              refine EL_nil ?_
              exact ⟨false, ⟨fun _ => .inr ((rigor_iff ho he hlt hx (hi.leD x hxm)).1 c175), H8⟩, ⟨rfl, rfl, rfl, rfl, rfl, rfl, rfl, rfl, rfl, rfl, rfl, rfl, rfl, trivial⟩⟩
            · refine CE_skip ?_
              exact ⟨g.rg, ⟨fun hh => .inl hh, H8⟩, ⟨rfl, rfl, rfl, rfl, rfl, rfl, rfl, rfl, rfl, rfl, rfl, rfl, rfl, trivial⟩⟩
          obtain ⟨hrg, H9⟩ := hmid
          refine CE_seq ?_
          refine CE_reg ?_
          refine EL_p (Pu_mv rfl) rfl ?_
          refine EL_p (Pu_mv rfl) rfl ?_
          refine EL_p (Pu_nil rfl) rfl ?_
          refine EL_p (Pu_fld rfl fi76_0) rfl ?_
          refine EL_ld rfl fl24 ((H9.cell (j := 2) rfl (i := x * 9) (by omega)).trans (congrArg some (itemsF_0 g.R g.W g.D x))) rfl ?_
          refine EL_p (Pu_mv rfl) rfl ?_
          refine EL_L rfl (Lo_bs H9 rfl rfl Try.underlying24 ze21 (fun bt w10 H10 => ?_))
          have hlen := hi.len x hxm
          refine EL_L rfl (Lo_append (j := 1) (q := x) H10 rfl hxm rfl rfl Try.underlying24 ze21 (by decide) (fun _ _ => rfl) (by omega) (by omega) (fun r' w11 hl11 hc11 H11 => ?_))
          refine EL_p (Pu_nil rfl) rfl ?_
          refine EL_p (Pu_fld rfl fi76_0) rfl ?_
          refine EL_L0 (Lo_st (j := 2) (i := x * 9) H11 rfl rfl rfl fl24 rfl (by omega) (fun w12 H12 => ?_))
          have H13 : HP W0 w12 (Blk vb 3 (cellsF [.int .u8 (h.A g.p), .int .i64 0, .string ByteArray.empty]) :: Fam h.m 1 21 (updR g.R x r') :: Blk ib (h.m * 9) (itemsF (updR g.R x r') (g.W) (g.D)) :: L) := H12.congr (j := 2) rfl (fun k _ => itemsF_row g.R g.W g.D x r' k)
          have hin13 : InL h (Blk vb 3 (cellsF [.int .u8 (h.A g.p), .int .i64 0, .string ByteArray.empty]) :: Fam h.m 1 21 (updR g.R x r') :: Blk ib (h.m * 9) (itemsF (updR g.R x r') (g.W) (g.D)) :: L) := ((hin.cons _).cons _).cons _
          have hE13 : EOK h E ze be (Blk vb 3 (cellsF [.int .u8 (h.A g.p), .int .i64 0, .string ByteArray.empty]) :: Fam h.m 1 21 (updR g.R x r') :: Blk ib (h.m * 9) (itemsF (updR g.R x r') (g.W) (g.D)) :: L) := ((hE.cons _).cons _).cons _
          refine EL_nil ?_
          refine CE_drawH H13 (fun w => HP W0 w (Blk vb 3 (cellsF [.int .u8 (h.A g.p), .int .i64 0, .string ByteArray.empty]) :: Fam h.m 1 21 (updR g.R x r') :: Blk ib (h.m * 9) (itemsF (updR g.R x r') (g.W) (g.D)) :: L)) [(0, 0), (1, 0), (2, 0), (3, 0), (4, 0), (5, 0), (6, 0), (7, 0), (8, 0), (9, 0), (10, 0), (11, 2)] mixed rfl (by kernel_rfl) (fun w14 H14 => ?_)
          refine AO_p rfl H14 (Pu.toIf (Pu_mv rfl)) rfl ?_
          refine AO_p rfl H14 (Pu.toIf (Pu_nil rfl)) rfl ?_
          refine AO_p rfl H14 (Pu.toIf (Pu_fld rfl fi76_1)) rfl ?_
          refine AO_p rfl H14 (Pu.toIf (Pu_mv rfl)) rfl ?_
          refine AO_p rfl H14 (Pu.toIf (Pu_mv rfl)) rfl ?_
          refine AO_p rfl H14 (Pu.toIf (Pu_nil rfl)) rfl ?_
          refine AO_p rfl H14 (Pu.toIf (Pu_fld rfl fi59_6)) rfl ?_
          first | (refine AO_p rfl H14 (Ld rfl fl23 (fun w h => h.cellM hin13.mh (by decide))) rfl ?_) | (refine AO_p rfl H14 (Ld rfl fl23 (fun w h => h.acellM hE13.me hT)) rfl ?_)
          refine AO_p rfl H14 (Pu.toIf (Pu_mv rfl)) rfl ?_
          refine AO_p rfl H14 (Pu.toIf (Pu_ixA (congrArg some hE.ve) rfl sl23 rfl hT (H14.anzM hE13.me hT))) rfl ?_
          first | (refine AO_p rfl H14 (Ld rfl fl3 (fun w h => h.cellM hin13.mh (by decide))) rfl ?_) | (refine AO_p rfl H14 (Ld rfl fl3 (fun w h => h.acellM hE13.me hT)) rfl ?_)
          refine AO_S rfl rfl (Lo_call ca44 rfl ((add44 (j := 2) H14 rfl (by omega) (lcW (updR g.R x r') g.W g.D x) (h.T g.p) (E (h.T g.p))).mono (fun y w15 hh => ⟨_, hh.1, ?_⟩)))
          have H15 := hh.2
          refine AO_nil ?_
          refine CE_reg ?_
          refine EL_p (Pu_add rfl rfl (w64 (by omega))) rfl ?_
          refine EL_p (Pu_mv rfl) rfl ?_
          refine EL_nil ?_
          have H16 := H15.congr (j := 2) rfl (g := itemsF (updR g.R x r') (fun y => if y = x then (g.W x).add (h.T g.p) (E (h.T g.p)) else g.W y) g.D) (fun k _ => itemsF_W _ _ _ _ _ _)
          exact ⟨{ g with p := g.p + 1, st := st', rg := rg', R := updR g.R x r', W := fun y => if y = x then (g.W x).add (h.T g.p) (E (h.T g.p)) else g.W y }, by dsimp only; omega, ⟨rfl, rfl, rfl, rfl, rfl, rfl, rfl, rfl, rfl, trivial⟩,
            hi.write ho he hlt c167 hx hxm hst hl11 (fun i hi' => by rw [hc11]; unfold appC; rw [if_pos (by omega)]) (by rw [hc11]; unfold appC; rw [if_neg (by omega)]) rfl hrg, H16.tail⟩
        · exfalso; omega --stop
  · refine CE_exit ?_
    refine CE_seq ?_
    refine CE_reg ?_
    refine EL_p (Pu_mv rfl) rfl ?_
    refine EL_p (Pu_mv rfl) rfl ?_
    refine EL_p (Pu_mv rfl) rfl ?_
    refine EL_p (Pu_mv rfl) rfl ?_
    refine EL_p (Pu_mv rfl) rfl ?_
    refine EL_gB rfl rfl (fun g203 => ?_) (fun g203 => ?_)
    · refine EL_yes rfl rfl ?_
      refine EL_p (Pu_mv rfl) rfl ?_
      refine EL_p (Pu_pt rfl rfl) rfl ?_
      refine EL_p (Pu_as rfl) rfl ?_
      refine EL_p (Pu_as rfl) rfl ?_
      refine EL_p (Pu_as rfl) rfl ?_
      refine EL_p (Pu_as rfl) rfl ?_
      refine EL_nil ?_
      refine CE_ret ?_
      have hpn : g.p = h.n := by omega
      refine ⟨_, rfl, ⟨_, _, _, _, rfl, ?_⟩, H2.tail.tail⟩
      have f1 := hi.rc
      have f2 := hi.aca
      have f3 := hi.st
      have f4 := hi.rg
      rw [hpn] at f2 f3 f4
      refine ⟨f1, f2, f3, ?_, ?_⟩
      · simp [g203]
      · intro hh; first | exact .inr (f4 hh) | exact .inl g203
    · refine EL_no rfl rfl rfl rfl ?_
      refine EL_p (Pu_pf rfl rfl) rfl ?_
      refine EL_p (Pu_as rfl) rfl ?_
      refine EL_p (Pu_as rfl) rfl ?_
      refine EL_p (Pu_as rfl) rfl ?_
      refine EL_p (Pu_as rfl) rfl ?_
      refine EL_nil ?_
      refine CE_ret ?_
      have hpn : g.p = h.n := by omega
      refine ⟨_, rfl, ⟨_, _, _, _, rfl, ?_⟩, H2.tail.tail⟩
      have f1 := hi.rc
      have f2 := hi.aca
      have f3 := hi.st
      have f4 := hi.rg
      rw [hpn] at f2 f3 f4
      refine ⟨f1, f2, f3, ?_, ?_⟩
      · simp [g203]
      · intro hh; first | exact .inr (f4 hh) | exact .inl g203
end Go.Proofs.Qxb6602549a
