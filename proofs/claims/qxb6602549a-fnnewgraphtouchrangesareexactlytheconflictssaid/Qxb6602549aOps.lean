/-
  The small program logic, part 3: one rule an operation that computes.
-/
import Derived.Test.Qxb6602549aEng2
import Derived.Lib.SliceRun
namespace Go.Proofs.Qxb6602549a
open Go Go.RowKit
set_option linter.unusedSimpArgs false
set_option linter.unusedVariables false

/-! ### Facts on types -/
/-- a value of the type is one cell -/
def Flat (P : Program) (t : TypeId) : Prop := (∃ d, P.underlying t = some d ∧ (match d with | .struct _ | .array _ _ => False | _ => True)) ∧ ∃ i, P.info? t = some i ∧ i.size = 1
def IntT (P : Program) (t : TypeId) (k : IntKind) : Prop := P.underlying t = some (.int k)
def SizeT (P : Program) (t : TypeId) (n : Nat) : Prop := ∃ i, P.info? t = some i ∧ i.size = n
/-- t is a slice type over e, whose values take n cells -/
def SliT (P : Program) (t e : TypeId) (n : Nat) : Prop := P.underlying t = some (.slice e) ∧ SizeT P e n
def ArrT (P : Program) (t : TypeId) (len : Nat) (e : TypeId) (n : Nat) : Prop := P.underlying t = some (.array len e) ∧ SizeT P e n
/-- field f of struct type s lies at offset off -/
def FieT (P : Program) (s : TypeId) (f off : Nat) : Prop := ∃ fs fl, P.underlying s = some (.struct fs) ∧ fs[f]? = some fl ∧ fl.offset = off ∧ ∃ i, P.info? fl.type = some i ∧ i.size ≠ 0
/-- the zero value, its cells, its bytes -/
def ZeroT (P : Program) (e : TypeId) (z : Value) (n bytes : Nat) : Prop := ∃ i, P.info? e = some i ∧ i.zero = some z ∧ i.size = n ∧ i.bytes = bytes ∧ z.cells.size = n

theorem addr_add (b o n : Nat) : (⟨b, o, none⟩ : Addr).add n = ⟨b, o + n, none⟩ := by
  unfold Addr.add
  split
  · rename_i h; simp [h]
  · rfl

section
variable {P : Program} {N : Nat} {e : Env} {w : World} {x y : Operand} {v u : Value} {ty t t2 : TypeId} {k : IntKind}

theorem Pu_mv (hx : opv e x = some v) : Pu P N (.move x) ty e v := by
  refine ⟨fun a ha dst pos af g w => ?_⟩
  simp [execOp, ha.eval hx]
theorem Pu_as (hx : opv e x = some v) : Pu P N (.assign x) ty e v := by
  refine ⟨fun a ha dst pos af g w => ?_⟩
  simp [execOp, ha.eval hx]
theorem Pu_pt {c : Operand} (hc : opv e c = some (.bool true)) (hx : opv e x = some v) : Pu P N (.pick c x y) ty e v := by
  refine ⟨fun a ha dst pos af g w => ?_⟩
  simp [execOp, ha.eval hc, ha.eval hx, asBool]
theorem Pu_pf {c : Operand} (hc : opv e c = some (.bool false)) (hy : opv e y = some v) : Pu P N (.pick c x y) ty e v := by
  refine ⟨fun a ha dst pos af g w => ?_⟩
  simp [execOp, ha.eval hc, ha.eval hy, asBool]
theorem Pu_nil {ad : Addr} (hx : opv e x = some (.pointer (some ad))) : Pu P N (.nilCheck x) ty e (.pointer (some ad)) := by
  refine ⟨fun a ha dst pos af g w => ?_⟩
  simp [execOp, ha.eval hx]
theorem Pu_not {b : Bool} (hx : opv e x = some (.bool b)) : Pu P N (.unOp .not t x) ty e (.bool (!b)) := by
  refine ⟨fun a ha dst pos af g w => ?_⟩
  simp [execOp, ha.eval hx, Op.unary]

variable {m n : Int}
theorem Pu_lss (hx : opv e x = some (.int k m)) (hy : opv e y = some (.int k n)) : Pu P N (.binOp .lss t x y t2) ty e (.bool (decide (m < n))) := by
  refine ⟨fun a ha dst pos af g w => ?_⟩
  simp [execOp, ha.eval hx, ha.eval hy, eqGuard, binOp, Op.intCmp]
theorem Pu_gtr (hx : opv e x = some (.int k m)) (hy : opv e y = some (.int k n)) : Pu P N (.binOp .gtr t x y t2) ty e (.bool (decide (n < m))) := by
  refine ⟨fun a ha dst pos af g w => ?_⟩
  simp [execOp, ha.eval hx, ha.eval hy, eqGuard, binOp, Op.intCmp]
theorem Pu_geq (hx : opv e x = some (.int k m)) (hy : opv e y = some (.int k n)) : Pu P N (.binOp .geq t x y t2) ty e (.bool (decide (n ≤ m))) := by
  refine ⟨fun a ha dst pos af g w => ?_⟩
  simp [execOp, ha.eval hx, ha.eval hy, eqGuard, binOp, Op.intCmp]
theorem Pu_eql (hx : opv e x = some (.int k m)) (hy : opv e y = some (.int k n)) : Pu P N (.binOp .eql t x y t2) ty e (.bool (decide (m = n))) := by
  refine ⟨fun a ha dst pos af g w => ?_⟩
  have : (m == n) = decide (m = n) := rfl
  simp [execOp, ha.eval hx, ha.eval hy, eqGuard, binOp, Op.intCmp, this]
theorem Pu_neq (hx : opv e x = some (.int k m)) (hy : opv e y = some (.int k n)) : Pu P N (.binOp .neq t x y t2) ty e (.bool (!decide (m = n))) := by
  refine ⟨fun a ha dst pos af g w => ?_⟩
  have : (m != n) = !decide (m = n) := rfl
  simp [execOp, ha.eval hx, ha.eval hy, eqGuard, binOp, Op.intCmp, this]

theorem Pu_add (hx : opv e x = some (.int k m)) (hy : opv e y = some (.int k n)) (hw : k.wrap (m + n) = m + n) : Pu P N (.binOp .add t x y t2) ty e (.int k (m + n)) := by
  refine ⟨fun a ha dst pos af g w => ?_⟩
  simp [execOp, ha.eval hx, ha.eval hy, eqGuard, binOp, Op.intArith, hw]
theorem Pu_sub (hx : opv e x = some (.int k m)) (hy : opv e y = some (.int k n)) (hw : k.wrap (m - n) = m - n) : Pu P N (.binOp .sub t x y t2) ty e (.int k (m - n)) := by
  refine ⟨fun a ha dst pos af g w => ?_⟩
  simp [execOp, ha.eval hx, ha.eval hy, eqGuard, binOp, Op.intArith, hw]
theorem Pu_mul (hx : opv e x = some (.int k m)) (hy : opv e y = some (.int k n)) (hw : k.wrap (m * n) = m * n) : Pu P N (.binOp .mul t x y t2) ty e (.int k (m * n)) := by
  refine ⟨fun a ha dst pos af g w => ?_⟩
  simp [execOp, ha.eval hx, ha.eval hy, eqGuard, binOp, Op.intArith, hw]
theorem Pu_cnv {k' : IntKind} (hx : opv e x = some (.int k m)) (ht : IntT P t k) (ht2 : IntT P t2 k') (hw : k'.wrap m = m) : Pu P N (.convert t t2 x) ty e (.int k' m) := by
  refine ⟨fun a ha dst pos af g w => ?_⟩
  simp [execOp, ha.eval hx, convert, run_underlying ht, run_underlying ht2, Conv.intToInt, hw]

theorem w64 (h : -9223372036854775808 ≤ m ∧ m ≤ 9223372036854775807) : IntKind.i64.wrap m = m := by rw [IntKind.wrap_i64]; omega
theorem w32 (h : -2147483648 ≤ m ∧ m ≤ 2147483647) : IntKind.i32.wrap m = m := by rw [IntKind.wrap_i32]; omega

theorem Pu_len {ad : Option Addr} {l c : Nat} {ats : Array TypeId} {el : TypeId} {sz : Nat} (hx : opv e x = some (.slice ad l c)) (ht : SliT P t el sz) (hats : ats = #[t]) : Pu P N (.call { callee := .builtin .len, args := #[x], argTypes := ats }) ty e (.int .i64 l) := by
  refine ⟨fun a ha dst pos af g w => ?_⟩
  subst hats
  simp [execOp, resolve, invoke, builtin, ha.eval hx, Builtin.len_, run_underlying ht.1, goInt]

theorem Pu_ext {vs : Array Value} {i : Nat} (hx : opv e x = some (.tuple vs)) (hv : vs[i]? = some v) : Pu P N (.extract x i) ty e v := by
  refine ⟨fun a ha dst pos af g w => ?_⟩
  simp [execOp, ha.eval hx, Instr.extract, hv]

theorem Pu_fld {b o f off : Nat} (hx : opv e x = some (.pointer (some ⟨b, o, none⟩))) (hf : FieT P t f off) : Pu P N (.fieldAddr t x f) ty e (.pointer (some ⟨b, o + off, none⟩)) := by
  refine ⟨fun a ha dst pos af g w => ?_⟩
  obtain ⟨fs, fl, h1, h2, h3, i, h4, h5⟩ := hf
  subst h3
  simp [execOp, ha.eval hx, Instr.fieldAt, run_underlying h1, h2, Instr.sureAddr, fieldPlace, sizeOf, typeInfo, program, Sem.run, h4, h5, addr_add]

theorem Pu_ixg {b o l c el sz j : Nat} (hx : opv e x = some (.slice (some ⟨b, o, none⟩) l c)) (hy : opv e y = some (.int k m)) (ht : SliT P t el sz) (hm : m = (j : Int)) (hj : j < l) :
    Pu P N (.indexAddr t x y) ty e (.pointer (some ⟨b, o + j * sz, none⟩)) := by
  refine ⟨fun a ha dst pos af g w => ?_⟩
  obtain ⟨h1, i, h2, h3⟩ := ht
  subst h3; subst hm
  have h4 : (0 : Int) ≤ (j : Int) ∧ (j : Int) < (l : Int) := ⟨by omega, by omega⟩
  simp [execOp, ha.eval hx, ha.eval hy, Instr.indexAt, asIntOf, run_underlying h1, sizeOf, typeInfo, program, Sem.run, h2, h4, addr_add]
  intro h7; omega

/-- an index into a slice of one-cell elements -/
theorem Pu_ixo {b o l c el j : Nat} (hx : opv e x = some (.slice (some ⟨b, o, none⟩) l c)) (hy : opv e y = some (.int k m)) (ht : SliT P t el 1) (hm : m = (j : Int)) (hj : j < l) :
    Pu P N (.indexAddr t x y) ty e (.pointer (some ⟨b, o + j, none⟩)) := by
  have := Pu_ixg (N := N) (ty := ty) hx hy ht hm hj
  rwa [Nat.mul_one] at this
theorem Pu_ix {b l c el j : Nat} (hx : opv e x = some (.slice (some ⟨b, 0, none⟩) l c)) (hy : opv e y = some (.int k m)) (ht : SliT P t el 1) (hm : m = (j : Int)) (hj : j < l) :
    Pu P N (.indexAddr t x y) ty e (.pointer (some ⟨b, j, none⟩)) := by
  have := Pu_ixo (N := N) (ty := ty) hx hy ht hm hj
  rwa [Nat.zero_add] at this
theorem Pu_ixm {b l c el sz j : Nat} (hx : opv e x = some (.slice (some ⟨b, 0, none⟩) l c)) (hy : opv e y = some (.int k m)) (ht : SliT P t el sz) (hm : m = (j : Int)) (hj : j < l) :
    Pu P N (.indexAddr t x y) ty e (.pointer (some ⟨b, j * sz, none⟩)) := by
  have := Pu_ixg (N := N) (ty := ty) hx hy ht hm hj
  rwa [Nat.zero_add] at this
/-- an index into an array in memory -/
theorem Pu_ixa {b o l el sz j : Nat} (hx : opv e x = some (.pointer (some ⟨b, o, none⟩))) (hy : opv e y = some (.int k m)) (ht : ArrT P t l el sz) (hm : m = (j : Int)) (hj : j < l) :
    Pu P N (.indexAddr t x y) ty e (.pointer (some ⟨b, o + j * sz, none⟩)) := by
  refine ⟨fun a ha dst pos af g w => ?_⟩
  obtain ⟨h1, i, h2, h3⟩ := ht
  subst h3; subst hm
  have h4 : (0 : Int) ≤ (j : Int) ∧ (j : Int) < (l : Int) := ⟨by omega, by omega⟩
  simp [execOp, ha.eval hx, ha.eval hy, Instr.indexAt, Instr.sureAddr, asIntOf, run_underlying h1, sizeOf, typeInfo, program, Sem.run, h2, h4, addr_add]
  intro h7; omega

/-- 's[:h]' -/
theorem Pu_res {ad : Option Addr} {l c el sz h : Nat} (hx : opv e x = some (.slice ad l c)) (hy : opv e y = some (.int k m)) (ht : SliT P t el sz) (hm : m = (h : Int)) (hh : h ≤ c) :
    Pu P N (.slice t x none (some y) none) ty e (.slice ad h c) := by
  refine ⟨fun a ha dst pos af g w => ?_⟩
  obtain ⟨h1, i, h2, h3⟩ := ht
  subst h3; subst hm
  have h4 : (0 : Int) ≤ (h : Int) ∧ (h : Int) ≤ (c : Int) := ⟨by omega, by omega⟩
  have h5 : ∀ a : Addr, a.add 0 = a := fun a => by simp [Addr.add]
  have h6 : ∀ o : Option Addr, o.map (fun x => x.add 0) = o := fun o => by cases o <;> simp [h5]
  simp [execOp, ha.eval hx, ha.eval hy, Instr.sliceAt, Instr.slice, Instr.sliceBounds, Instr.sliceBound, asIntOf, run_underlying h1, sizeOf, typeInfo, program, Sem.run, h2, h4, h6]
  intro h7; omega

theorem Pu_snil {ad : Option Addr} {l c el sz : Nat} (hx : opv e x = some (.slice ad l c)) (ht : SliT P t el sz) : Pu P N (.binOp .eql t x (.const (.slice none 0 0)) t2) ty e (.bool ad.isNone) := by
  refine ⟨fun a ha dst pos af g w => ?_⟩
  have hb := Lib.run_eql_slice_nil (P := P) w t el ad l c 0 0 ht.1
  have hc : a.eval (.const (.slice none 0 0)) = .slice none 0 0 := rfl
  simp [execOp, ha.eval hx, hc, eqGuard, hb]

theorem Pu_neqB {a1 b1 : Bool} (hx : opv e x = some (.bool a1)) (hy : opv e y = some (.bool b1)) (ht : P.underlying t = some .bool) : Pu P N (.binOp .neq t x y t2) ty e (.bool (a1 != b1)) := by
  refine ⟨fun a ha dst pos af g w => ?_⟩
  have h : ∀ d : Nat, (Op.equalIn (d + 1) t (.bool a1) (.bool b1)).run P w = .ok (a1 == b1) w := fun d => by
    simp [Op.equalIn, run_underlying ht]
  have h2 : (binOp .neq t (.bool a1) (.bool b1)).run P w = .ok (.bool (a1 != b1)) w := by
    simp only [binOp]
    simp [Op.equal, Op.maxDepth, h 9999, bne]
  simp [execOp, ha.eval hx, ha.eval hy, eqGuard, h2]

/-! ### Loads -/
theorem Ld {S : World → Prop} {ad : Addr} (hx : opv e x = some (.pointer (some ad))) (ht : Flat P t) (hc : ∀ w, S w → w.cell? ad = some v) : PuIf P N S (.load t x) ty e v := by
  refine ⟨fun a ha dst pos af g w hS => ?_⟩
  obtain ⟨⟨d, h1, h2⟩, _⟩ := ht
  have h3 := hc w hS
  cases d <;> simp at h2 <;> simp [execOp, ha.eval hx, Instr.loadAt, Instr.sureAddr, loadVar, isAgg, run_underlying h1, h3]

variable {full rest : List Oper} {K : Env → World → Prop} {pos : String} {af : Array Edge} {d : Nat}
theorem EL_ld {ad : Addr} (hx : opv e x = some (.pointer (some ad))) (ht : Flat P t) (hc : w.cell? ad = some v) (hd : Nat.blt d N = true) (h2 : EL P N full rest ((d, v) :: e) w K) :
    EL P N full ({ dst := some d, op := .load t x, type := ty, pos := pos, after := af, guard := none } :: rest) e w K :=
  EL_i (S := fun w' => w' = w) (Ld hx ht fun w' h => by rw [h]; exact hc) rfl hd h2

/-! ### Stores -/
theorem Lo_store {ad : Addr} {old : Value} {R : Value → World → Prop} (hx : opv e x = some (.pointer (some ad))) (hy : opv e y = some v) (ht : Flat P t) (hv : v.oneCell' = true) (hc : w.cell? ad = some old) (hf : w.frozen? ad = false)
    (h : R undef (w.setCell ad v)) : Lo P N (.store t x y) ty e w R := by
  refine ⟨fun a ha dst pos af g => ?_⟩
  refine .inr (.inl ⟨w.setCell ad v, ?_, h⟩)
  obtain ⟨_, i, h1, h2⟩ := ht
  have h0 : ad.add 0 = ad := by simp [Addr.add]
  cases v <;> simp [Value.oneCell'] at hv <;>
    simp [execOp, ha.eval hx, ha.eval hy, Instr.storeAt, Instr.sureAddr, storeVar, storeCells, Value.cells, sizeOf, typeInfo, program, h1, h2, store, Sem.run, hc, hf, h0]
end
end Go.Proofs.Qxb6602549a
