/-
  More of the small program logic: drawn regions where several operations that act stand ready at once; chunks in another order; a map of our own; keys.
-/
import Derived.Test.Qxb6602549aBytes
import Derived.MapKept
namespace Go.Proofs.Qxb6602549a
open Go Go.RowKit
set_option linter.unusedSimpArgs false
set_option linter.unusedVariables false

section
variable {P : Program} {N : Nat} {full : List Oper} {S : World → Prop} {n : Nat} {listed : Array Bool} {e : Env} {w : World} {K : Env → World → Prop} {p : Post}
variable {op : Op} {ty : TypeId} {pos : String} {af : Array Edge} {i j k l d : Nat}

/-- From here on, with what is listed told, whatever order is picked. -/
structure AM (P : Program) (N : Nat) (full : List Oper) (S : World → Prop) (n : Nat) (listed : Array Bool) (e : Env) (w : World) (K : Env → World → Prop) : Prop where
  out : ∀ a, Knows N a e → Closed .any full.toArray listed → Region.noSelect full.toArray = true → wpAnyX P .any full.toArray (Kq N K) S n listed a w

/-- Number i is picked next. -/
structure AS (P : Program) (N : Nat) (full : List Oper) (S : World → Prop) (n : Nat) (listed : Array Bool) (e : Env) (w : World) (K : Env → World → Prop) (i : Nat) : Prop where
  out : ∀ a, Knows N a e → Closed .any full.toArray (listed.setIfInBounds i true) → Region.noSelect full.toArray = true →
    wpOp P full.toArray (Kq N K) i (fun a' w' => (S w' ∨ sinkB .any full.toArray i = true) ∧ wpAnyX P .any full.toArray (Kq N K) S n (listed.setIfInBounds i true) a' w') a w

theorem CE_drawM {id : Nat} {W0 : World} {L : List Chunk} (H : HP W0 w L) (S : World → Prop) (hm : P.follows .mixedOrders = true) (hns : Region.noSelect full.toArray = true)
    (h : ∀ w1, HP W0 w1 L → AM P N full S full.length (Array.replicate full.length false) e w1 p.norm) : CE P N (.region id full.toArray true) e w p := by
  refine ⟨fun a ha => ?_⟩
  refine wp_mono (wp_region_any (Q := Kq N p.norm) hm (wpAny_of_X (S := S) _ _ _ _ ?_)) (Kq_mono fun _ _ h => h)
  have h1 := (h _ (H.draw (w.drawn + 1))).out a ha (by simpa using Closed.start (md := .any) (ops := full.toArray) full.length) hns
  simpa using h1

theorem AM_nil (hr : (Region.ready .any full.toArray listed).isEmpty = true) (h : K e w) : AM P N full S 0 listed e w K :=
  ⟨fun a ha _ _ => ⟨by simpa using hr, e, ha, h⟩⟩

theorem AM_p {v : Value} (hok : ((Region.ready .any full.toArray listed).contains i && Region.free .any full.toArray listed i) = true)
    (ho : opAt full i = some { dst := some d, op := op, type := ty, pos := pos, after := af, guard := none }) (hS : S w) (h : PuIf P N S op ty e v) (hd : Nat.blt d N = true)
    (h2 : AM P N full S n (listed.setIfInBounds i true) ((d, v) :: e) w K) : AM P N full S (n + 1) listed e w K := by
  refine ⟨fun a ha hcl hns => ?_⟩
  rw [Bool.and_eq_true] at hok
  obtain ⟨hr, hf⟩ := hok
  have hi : full.toArray[i]? = some { dst := some d, op := op, type := ty, pos := pos, after := af, guard := none } := by rw [opAt_eq]; exact ho
  exact wpAnyX_first hi (Region.noSelect_spec hns) Kq_panic n listed a w hcl (Region.free_spec hi hf) (by simpa using hr) (.inl ⟨rfl, fun w hw => h.out a ha _ _ _ _ w hw⟩) hS
    (h2.out _ (ha.put d hd v) (hcl.set (by simpa using hr)) hns)

theorem AS_L (ho : opAt full i = some { dst := some d, op := op, type := ty, pos := pos, after := af, guard := none }) (hd : Nat.blt d N = true)
    (h : Lo P N op ty e w fun v w' => S w' ∧ AM P N full S n (listed.setIfInBounds i true) ((d, v) :: e) w' K) : AS P N full S n listed e w K i := by
  refine ⟨fun a ha hcl hns => ?_⟩
  have hi : full.toArray[i]? = some { dst := some d, op := op, type := ty, pos := pos, after := af, guard := none } := by rw [opAt_eq]; exact ho
  unfold wpOp
  simp only [hi]
  rw [if_pos (by rfl)]
  refine .inl (Lo.oper h ha fun v w' hR => ?_)
  exact ⟨.inl hR.1, hR.2.out _ (ha.put d hd v) hcl hns⟩

theorem AM_fork {is : List Nat} (hr : (Region.ready .any full.toArray listed == is) = true) (hne : is.isEmpty = false) (h : ∀ i, i ∈ is → AS P N full S n listed e w K i) : AM P N full S (n + 1) listed e w K := by
  refine ⟨fun a ha hcl hns => ?_⟩
  have hr' : Region.ready .any full.toArray listed = is := by simpa using hr
  refine ⟨fun h0 => ?_, fun i hi => ?_⟩
  · rw [hr'] at h0; subst h0; simp at hne
  · exact (h i (by rw [← hr']; exact hi)).out a ha (hcl.set hi) hns
theorem AM_f1 (hr : (Region.ready .any full.toArray listed == [i]) = true) (h1 : AS P N full S n listed e w K i) : AM P N full S (n + 1) listed e w K :=
  AM_fork hr rfl fun q hq => by
    simp only [List.mem_cons, List.not_mem_nil, or_false] at hq
    subst hq; exact h1
theorem AM_f2 (hr : (Region.ready .any full.toArray listed == [i, j]) = true) (h1 : AS P N full S n listed e w K i) (h2 : AS P N full S n listed e w K j) : AM P N full S (n + 1) listed e w K :=
  AM_fork hr rfl fun q hq => by
    simp only [List.mem_cons, List.not_mem_nil, or_false] at hq
    rcases hq with rfl | rfl
    · exact h1
    · exact h2
theorem AM_f3 (hr : (Region.ready .any full.toArray listed == [i, j, k]) = true) (h1 : AS P N full S n listed e w K i) (h2 : AS P N full S n listed e w K j) (h3 : AS P N full S n listed e w K k) : AM P N full S (n + 1) listed e w K :=
  AM_fork hr rfl fun q hq => by
    simp only [List.mem_cons, List.not_mem_nil, or_false] at hq
    rcases hq with rfl | rfl | rfl
    · exact h1
    · exact h2
    · exact h3
theorem AM_f4 (hr : (Region.ready .any full.toArray listed == [i, j, k, l]) = true) (h1 : AS P N full S n listed e w K i) (h2 : AS P N full S n listed e w K j) (h3 : AS P N full S n listed e w K k) (h4 : AS P N full S n listed e w K l) :
    AM P N full S (n + 1) listed e w K :=
  AM_fork hr rfl fun q hq => by
    simp only [List.mem_cons, List.not_mem_nil, or_false] at hq
    rcases hq with rfl | rfl | rfl | rfl
    · exact h1
    · exact h2
    · exact h3
    · exact h4
end

/-! ### The chunks in another order -/
section
variable {W0 w w' : World} {L L' : List Chunk} {c : Chunk}
theorem HP.cons_iff : HP W0 w (c :: L) ↔ HP W0 w L ∧ c.sat (hof w) ∧ (∀ b, c.foot b → W0.heap.size ≤ b ∧ b < w.heap.size) ∧ ∀ d, d ∈ L → ∀ b, c.foot b → ¬ d.foot b := by
  constructor
  · intro H
    refine ⟨H.tail, H.sat 0 c rfl, H.rng 0 c rfl, fun d hd b hb => ?_⟩
    obtain ⟨j, hj⟩ := List.getElem?_of_mem hd
    exact H.disj 0 (j + 1) c d (by omega) rfl (by simpa using hj) b hb
  · rintro ⟨H, h1, h2, h3⟩
    refine ⟨H.below, fun i d hd => ?_, fun i d hd => ?_, fun i k d d' hik hd hd' => ?_⟩
    · cases i with
      | zero => simp at hd; subst hd; exact h1
      | succ i => exact H.sat i d (by simpa using hd)
    · cases i with
      | zero => simp at hd; subst hd; exact h2
      | succ i => exact H.rng i d (by simpa using hd)
    · cases i with
      | zero =>
        simp at hd; subst hd
        cases k with
        | zero => omega
        | succ k => exact h3 d' (List.mem_of_getElem? (by simpa using hd'))
      | succ i =>
        cases k with
        | zero =>
          simp at hd'; subst hd'
          intro b hb hb'
          exact h3 d (List.mem_of_getElem? (by simpa using hd)) b hb' hb
        | succ k => exact H.disj i k d d' (by omega) (by simpa using hd) (by simpa using hd')

theorem HP.perm (H : HP W0 w L) (hp : L.Perm L') : HP W0 w L' := by
  induction hp with
  | nil => exact H
  | cons x p ih =>
    obtain ⟨h1, h2, h3, h4⟩ := HP.cons_iff.1 H
    exact HP.cons_iff.2 ⟨ih h1, h2, h3, fun d hd => h4 d (p.mem_iff.2 hd)⟩
  | swap x y l =>
    obtain ⟨h1, h2, h3, h4⟩ := HP.cons_iff.1 H
    obtain ⟨g1, g2, g3, g4⟩ := HP.cons_iff.1 h1
    refine HP.cons_iff.2 ⟨HP.cons_iff.2 ⟨g1, h2, h3, fun d hd => h4 d (List.mem_cons_of_mem _ hd)⟩, g2, g3, fun d hd b hb hb' => ?_⟩
    rcases List.mem_cons.1 hd with rfl | hd
    · exact h4 x (List.mem_cons_self) b hb' hb
    · exact g4 d hd b hb hb'
  | trans _ _ ih1 ih2 => exact ih2 (ih1 H)

def swapAt : Nat → List Chunk → List Chunk
  | 0, a :: b :: l => b :: a :: l
  | k + 1, a :: l => a :: swapAt k l
  | _, l => l
theorem swapAt_perm : ∀ (k : Nat) (L : List Chunk), L.Perm (swapAt k L)
  | 0, a :: b :: l => List.Perm.swap b a l
  | 0, [a] => List.Perm.refl _
  | 0, [] => List.Perm.refl _
  | k + 1, a :: l => (swapAt_perm k l).cons a
  | k + 1, [] => List.Perm.refl _
theorem HP.swapAt (H : HP W0 w L) (k : Nat) : HP W0 w (swapAt k L) := H.perm (swapAt_perm k L)
end

/-! ### A map of our own: from keys of 64 bits to numbers of 32 -/
def pairsOf (es : Array MapEntry) : List (Value × Value) := es.toList.map fun x => (x.key, x.val)

def MapK (b : Nat) (f : Nat → Option Int) : Chunk where
  foot := fun x => x = b
  sat := fun h => ∃ es clk, h b = some (.map es clk) ∧ (∀ x, x ∈ es.toList → ∃ q : Nat, x.key = .int .u64 q ∧ ∃ v, f q = some v ∧ x.val = .int .i32 v) ∧ ∀ q v, f q = some v → ∃ x, x ∈ es.toList ∧ x.key = .int .u64 (q : Nat)
  loc := fun h h' he ⟨es, clk, h1, h2⟩ => ⟨es, clk, by rw [← he b rfl]; exact h1, h2⟩

section
variable {P : Program} {N : Nat} {e : Env} {W0 w : World} {L : List Chunk} {x y z : Operand} {ty t kt et : TypeId} {j b : Nat} {f : Nat → Option Int} {Rr : Value → World → Prop} {q : Nat} {v : Int}

theorem Lo_mkmap (H : HP W0 w L) (h : ∀ b w', HP W0 w' (MapK b (fun _ => none) :: L) → Rr (.map (some b)) w') : Lo P N (.makeMap t none) ty e w Rr := by
  refine ⟨fun a ha dst pos af g => ?_⟩
  refine .inl ⟨_, w.alloc (.map #[] 0), ?_, h w.heap.size _ ?_⟩
  · simp [execOp, Instr.makeMap, newObj, Sem.run]
  · refine H.push (Ext.alloc w _ _) ⟨#[], 0, heap_alloc_new w _, by simp, by simp⟩ fun b hb => ?_
    have hb' : b = w.heap.size := hb
    subst hb'
    simp

theorem MapK_find (H : HP W0 w L) (hj : L[j]? = some (MapK b f)) (q : Nat) :
    ∃ es clk, w.heap[b]? = some (.map es clk) ∧ (∀ x, x ∈ es.toList → ∃ q : Nat, x.key = .int .u64 q ∧ ∃ v, f q = some v ∧ x.val = .int .i32 v) ∧ (∀ q v, f q = some v → ∃ x, x ∈ es.toList ∧ x.key = .int .u64 (q : Nat)) ∧
      ((f q = none ∧ Instr.findNow (.int .u64) (.int .u64 q) es.toList 0 = some none) ∨ ∃ v i, f q = some v ∧ Instr.findNow (.int .u64) (.int .u64 q) es.toList 0 = some (some (i, .int .i32 v))) := by
  obtain ⟨es, clk, h1, h2, h3⟩ := H.sat j _ hj
  refine ⟨es, clk, h1, h2, h3, ?_⟩
  rcases MapKept.findNow_spec (d := .int .u64) (k := .int .u64 q) rfl es.toList 0 (fun x hx => by obtain ⟨q', e1, _⟩ := h2 x hx; rw [e1]; rfl) with ⟨g1, g2⟩ | ⟨i, x, g1, g2, g3⟩
  · refine .inl ⟨?_, g1⟩
    cases hf : f q with
    | none => rfl
    | some v =>
      obtain ⟨x, hx, hk⟩ := h3 q v hf
      exact absurd hk (g2 x hx)
  · obtain ⟨q', e1, v, e2, e3⟩ := h2 x (List.mem_of_getElem? g2)
    rw [e1] at g3
    have : q' = q := by
      simp only [Value.int.injEq, true_and] at g3
      omega
    subst this
    exact .inr ⟨v, 0 + i, e2, by rw [g1, e3]⟩

theorem Lk {S : World → Prop} (hx : opv e x = some (.map (some b))) (hy : opv e y = some (.int .u64 (q : Nat))) (ht : P.underlying t = some (.map kt et)) (hk : P.underlying kt = some (.int .u64)) (hz : ZeroT P et (.int .i32 0) 1 4)
    (hc : ∀ w, S w → ∃ (W0 : World) (L : List Chunk) (j : Nat), HP W0 w L ∧ L[j]? = some (MapK b f)) : PuIf P N S (.lookup t x y true) ty e (.tuple #[.int .i32 ((f q).getD 0), .bool (f q).isSome]) := by
  refine ⟨fun a ha dst pos af g w hS => ?_⟩
  obtain ⟨W0, L, j, H, hj⟩ := hc w hS
  obtain ⟨es, clk, h1, _, _, h2⟩ := MapK_find H hj q
  obtain ⟨i, z1, z2, z3, z4, z5⟩ := hz
  rcases h2 with ⟨hf, h2⟩ | ⟨v, i, hf, h2⟩
  · simp [execOp, ha.eval hx, ha.eval hy, Instr.lookup, run_underlying ht, MapKept.run_getObj_map h1, MapKept.run_checkKey hk (show MapKept.IsKey (.int .u64) (.int .u64 (q : Int)) from rfl), MapKept.run_findKey hk h2, zeroValue, typeInfo, program, Sem.run, z1, z2, hf]
  · simp [execOp, ha.eval hx, ha.eval hy, Instr.lookup, run_underlying ht, MapKept.run_getObj_map h1, MapKept.run_checkKey hk (show MapKept.IsKey (.int .u64) (.int .u64 (q : Int)) from rfl), MapKept.run_findKey hk h2, hf]

theorem Lo_mset (H : HP W0 w L) (hj : L[j]? = some (MapK b f)) (hx : opv e x = some (.map (some b))) (hy : opv e y = some (.int .u64 (q : Nat))) (hv : opv e z = some (.int .i32 v)) (ht : P.underlying t = some (.map kt et)) (hk : P.underlying kt = some (.int .u64))
    (hq : f q = none) (h : ∀ w', HP W0 w' (L.set j (MapK b (fun q' => if q' = q then some v else f q'))) → Rr undef w') : Lo P N (.mapUpdate t x y z) ty e w Rr := by
  refine ⟨fun a ha dst pos af g => ?_⟩
  obtain ⟨es, clk, h1, hall, hhas, h2⟩ := MapK_find H hj q
  rcases h2 with ⟨hf, h2⟩ | ⟨v', i, hf, h2⟩
  · refine .inr (.inl ⟨{ w with heap := w.heap.setIfInBounds b (.map (es.push { key := .int .u64 q, val := .int .i32 v, born := clk }) (clk + 1)) }, ?_, h _ ?_⟩)
    · simp [execOp, ha.eval hx, ha.eval hy, ha.eval hv, Instr.mapUpdate, run_underlying ht, MapKept.run_getObj_map h1, MapKept.run_checkKey hk (show MapKept.IsKey (.int .u64) (.int .u64 (q : Int)) from rfl), MapKept.run_findKey hk h2, MapKept.run_setObj_map _ h1]
    · refine H.upd hj ⟨rfl, rfl, rfl, by simp, fun r hr hne => (MapKept.heap_set h1).2 r hne⟩ ⟨_, _, (MapKept.heap_set h1).1, ?_, ?_⟩ (fun _ hb => .inl hb)
      · intro x' hx'
        simp only [Array.toList_push, List.mem_append, List.mem_singleton] at hx'
        rcases hx' with hx' | rfl
        · obtain ⟨q', e1, v', e2, e3⟩ := hall x' hx'
          refine ⟨q', e1, v', ?_, e3⟩
          have : q' ≠ q := fun hh => by rw [hh, hq] at e2; cases e2
          simp [this, e2]
        · exact ⟨q, rfl, v, by simp, rfl⟩
      · intro q' v' hq'
        by_cases hqq : q' = q
        · subst hqq
          exact ⟨{ key := .int .u64 (q' : Nat), val := .int .i32 v, born := clk }, by simp, rfl⟩
        · simp only [if_neg hqq] at hq'
          obtain ⟨x', hx', hk'⟩ := hhas q' v' hq'
          exact ⟨x', by simp [hx'], hk'⟩
  · rw [hq] at hf; cases hf

/-- 't<<32 | x' -/
def keyOf (t x : Nat) : Nat := t * 4294967296 + x
theorem keyOf_inj {t x t' x' : Nat} (h1 : x < 4294967296) (h2 : x' < 4294967296) (h : keyOf t x = keyOf t' x') : t = t' ∧ x = x' := by
  unfold keyOf at h; omega

theorem wu64 {m : Int} (h : 0 ≤ m ∧ m < 18446744073709551616) : IntKind.u64.wrap m = m := by rw [IntKind.wrap_u64]; omega

theorem Pu_shl {k2 : IntKind} {tn : Nat} (hx : opv e x = some (.int .u64 (tn : Nat))) (hy : opv e y = some (.int k2 32)) (ht : tn < 65536) {t2 : TypeId} : Pu P N (.binOp .shl t x y t2) ty e (.int .u64 ((tn * 4294967296 : Nat) : Int)) := by
  refine ⟨fun a ha dst pos af g w => ?_⟩
  have hw : IntKind.u64.wrap ((tn : Int) * 2 ^ 32) = ((tn * 4294967296 : Nat) : Int) := by
    rw [show ((tn : Int) * 2 ^ 32) = ((tn * 4294967296 : Nat) : Int) by simp]
    exact wu64 ⟨by omega, by omega⟩
  have hsh : Op.shift .shl .u64 (tn : Int) k2 32 = pure (.int .u64 ((tn * 4294967296 : Nat) : Int)) := by
    unfold Op.shift
    rw [if_neg (by decide)]
    show pure (Value.int .u64 (IntKind.u64.wrap ((tn : Int) * 2 ^ 32))) = _
    rw [hw]
  simp [execOp, ha.eval hx, ha.eval hy, eqGuard, binOp, hsh]

theorem Pu_or {tn xn : Nat} (hx : opv e x = some (.int .u64 ((tn * 4294967296 : Nat) : Int))) (hy : opv e y = some (.int .u64 (xn : Nat))) (ht : tn < 65536) (hxn : xn < 4294967296) {t2 : TypeId} : Pu P N (.binOp .or t x y t2) ty e (.int .u64 ((keyOf tn xn : Nat) : Int)) := by
  refine ⟨fun a ha dst pos af g w => ?_⟩
  have hor : (tn * 4294967296) ||| xn = keyOf tn xn := by
    have := Nat.shiftLeft_add_eq_or_of_lt (i := 32) (b := xn) (by simpa using hxn) tn
    unfold keyOf
    rw [Nat.shiftLeft_eq] at this
    simpa using this.symm
  have hk : keyOf tn xn < 18446744073709551616 := by unfold keyOf; omega
  have hbv : (BitVec.ofInt 64 ((tn * 4294967296 : Nat) : Int) ||| BitVec.ofInt 64 ((xn : Nat) : Int)).toNat = keyOf tn xn := by
    rw [BitVec.toNat_or, BitVec.ofInt_natCast, BitVec.ofInt_natCast, BitVec.toNat_ofNat, BitVec.toNat_ofNat, Nat.mod_eq_of_lt (by omega), Nat.mod_eq_of_lt (by omega), hor]
  have hw : IntKind.u64.wrap ((keyOf tn xn : Nat) : Int) = ((keyOf tn xn : Nat) : Int) := wu64 ⟨by omega, by omega⟩
  have hib : Op.intBits .or .u64 ((tn * 4294967296 : Nat) : Int) (xn : Int) = pure (.int .u64 ((keyOf tn xn : Nat) : Int)) := by
    show pure (Value.int .u64 (IntKind.u64.wrap (((BitVec.ofInt 64 ((tn * 4294967296 : Nat) : Int) ||| BitVec.ofInt 64 ((xn : Nat) : Int)).toNat : Nat) : Int))) = _
    rw [hbv, hw]
  have hbn : binOp .or t (.int .u64 ((tn * 4294967296 : Nat) : Int)) (.int .u64 (xn : Int)) = pure (.int .u64 ((keyOf tn xn : Nat) : Int)) := hib
  generalize ((tn * 4294967296 : Nat) : Int) = tt at *
  simp [execOp, ha.eval hx, ha.eval hy, eqGuard, hbn]

/-- a slice of one element of eight cells -/
theorem Lo_bs8 {el : TypeId} {zz : Value} {bytes : Nat} {c0 c1 c2 c3 c4 c5 c6 c7 z0 z1 z2 z3 z4 z5 z6 z7 : Value} (H : HP W0 w L) (hx : opv e x = some (.agg #[c0, c1, c2, c3, c4, c5, c6, c7])) (ht : P.underlying t = some (.slice el)) (hz : ZeroT P el zz 8 bytes)
    (hzz : zz.cells = #[z0, z1, z2, z3, z4, z5, z6, z7])
    (h : ∀ b w', HP W0 w' (Blk b 8 (cellsF [c0, c1, c2, c3, c4, c5, c6, c7]) :: L) → Rr (.slice (some ⟨b, 0, none⟩) 1 1) w') : Lo P N (.buildSlice t 1 #[(0, x)]) ty e w Rr := by
  refine ⟨fun a ha dst pos af g => ?_⟩
  obtain ⟨i, h1, h2, h3, h4, h5⟩ := hz
  have hr : Array.range 8 = #[0, 1, 2, 3, 4, 5, 6, 7] := by decide
  refine .inl ⟨_, w.alloc (.cells #[c0, c1, c2, c3, c4, c5, c6, c7] el), ?_, h w.heap.size _ ?_⟩
  · simp [execOp, ha.eval hx, Instr.buildSlice, run_underlying ht, sizeOf, zeroValue, typeInfo, program, Sem.run, h1, h2, h3, Instr.fill, hzz, newRow, hr, Value.cells]
  · exact H.alloc (by simp) fun i hi => by simpa using cellsF_get [c0, c1, c2, c3, c4, c5, c6, c7] i (by simpa using hi)
end
end Go.Proofs.Qxb6602549a
