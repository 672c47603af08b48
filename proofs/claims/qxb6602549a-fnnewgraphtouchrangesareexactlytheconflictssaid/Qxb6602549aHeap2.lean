/-
  The small program logic, part 5: the operations that make and write memory.
-/
import Derived.Test.Qxb6602549aHeap
namespace Go.Proofs.Qxb6602549a
open Go Go.RowKit
set_option linter.unusedSimpArgs false
set_option linter.unusedVariables false

/-- cells written out -/
def cellsF : List Value → Nat → Value
  | [], _ => undef
  | v :: _, 0 => v
  | _ :: r, i + 1 => cellsF r i

theorem cellsF_get (l : List Value) : ∀ i, i < l.length → l[i]? = some (cellsF l i) := by
  induction l with
  | nil => intro i h; simp at h
  | cons v r ih =>
    intro i h
    cases i with
    | zero => simp [cellsF]
    | succ i => simp at h; simpa [cellsF] using ih i h

section
variable {P : Program} {N : Nat} {e : Env} {W0 w : World} {L : List Chunk} {x y : Operand} {v u : Value} {ty t el : TypeId} {k k' : IntKind} {m : Int} {j b n i c sz bytes : Nat} {f : Nat → Value} {z : Value}
variable {Rr : Value → World → Prop}

theorem Lo_st (H : HP W0 w L) (hj : L[j]? = some (Blk b n f)) (hx : opv e x = some (.pointer (some ⟨b, i, none⟩))) (hy : opv e y = some v) (ht : Flat P t) (hv : v.oneCell' = true) (hi : i < n)
    (h : ∀ w', HP W0 w' (L.set j (Blk b n (setF f i v))) → Rr undef w') : Lo P N (.store t x y) ty e w Rr :=
  Lo_store hx hy ht hv (H.cell hj hi) (H.frz hj) (h _ (H.store hj hi v))

theorem Lo_rst {mm es q : Nat} {T : TypeId} {R : Nat → Row} (H : HP W0 w L) (hj : L[j]? = some (Fam mm es T R)) (hq : q < mm) (hb : (R q).blk = some b) (hx : opv e x = some (.pointer (some ⟨b, i, none⟩))) (hy : opv e y = some v) (ht : Flat P t) (hv : v.oneCell' = true)
    (hi : i < (R q).len * es) (h : ∀ w', HP W0 w' (L.set j (Fam mm es T (updR R q ⟨(R q).blk, (R q).len, (R q).cap, setF (R q).c i v⟩))) → Rr undef w') : Lo P N (.store t x y) ty e w Rr :=
  Lo_store hx hy ht hv (H.rcell hj hq hb hi) (H.rfrz hj hq hb) (h _ (H.rstore hj hq hb v i))

theorem Lo_make (H : HP W0 w L) (hx : opv e x = some (.int k m)) (hy : opv e y = some (.int k' m)) (hm : m = (c : Int)) (ht : P.underlying t = some (.slice el)) (hz : ZeroT P el z sz bytes)
    (hb : bytes * c ≤ 281474976710656) (hc : c ≤ 9223372036854775807)
    (h : ∀ b w', HP W0 w' (Blk b (c * sz) (fun i => cellsF z.cells.toList (i % sz)) :: L) → Rr (.slice (some ⟨b, 0, none⟩) c c) w') : Lo P N (.makeSlice t x y) ty e w Rr := by
  refine ⟨fun a ha dst pos af g => ?_⟩
  obtain ⟨i, h1, h2, h3, h4, h5⟩ := hz
  subst hm; subst h3; subst h4
  have hb' : ((i.bytes * c : Nat) : Int) ≤ ((281474976710656 : Nat) : Int) := Int.ofNat_le.2 hb
  rw [Int.natCast_mul] at hb'
  have hr := run_make (P := P) w t el i z ht h1 h2 k k' (c : Int) (c : Int) (by omega) (by omega) hb' (by omega)
  refine .inl ⟨_, _, ?_, h w.heap.size (w.alloc (.cells (madeCells z.cells (c * i.size)) el)) ?_⟩
  · simp [execOp, ha.eval hx, ha.eval hy, hr]
  · refine H.alloc (by simp [size_madeCells]) fun j hj => ?_
    have hp : 0 < i.size := by
      rcases Nat.eq_zero_or_pos i.size with h0 | h0
      · rw [h0] at hj; simp at hj
      · exact h0
    have hlt : j % i.size < z.cells.size := by rw [h5]; exact Nat.mod_lt _ hp
    have h6 := cellsF_get z.cells.toList (j % i.size) (by simpa using hlt)
    simp only [madeCells, Array.getElem?_map, Array.getElem?_range, hj, if_true, Option.map_some, h5]
    rw [← h6]
    simp [hlt]

/-- make of one-cell elements -/
theorem Lo_make1 (H : HP W0 w L) (hx : opv e x = some (.int k m)) (hy : opv e y = some (.int k' m)) (hm : m = (c : Int)) (ht : P.underlying t = some (.slice el)) (hz : ZeroT P el z 1 bytes) (hz1 : z.cells = #[z])
    (hb : bytes * c ≤ 281474976710656) (hc : c ≤ 9223372036854775807)
    (h : ∀ b w', HP W0 w' (Blk b c (fun _ => z) :: L) → Rr (.slice (some ⟨b, 0, none⟩) c c) w') : Lo P N (.makeSlice t x y) ty e w Rr := by
  refine Lo_make H hx hy hm ht hz hb hc fun b w' H' => h b w' ?_
  have h1 := H'.congr (j := 0) rfl (g := fun _ => z) (fun i hi => by simp [hz1, Nat.mod_one, cellsF])
  simpa using h1

theorem Lo_box {cs : List Value} (H : HP W0 w L) (hx : opv e x = some v) (hv : v.cells = cs.toArray)
    (h : ∀ b w', HP W0 w' (Blk b cs.length (cellsF cs) :: L) → Rr (.pointer (some ⟨b, 0, none⟩)) w') : Lo P N (.box t x) ty e w Rr := by
  refine ⟨fun a ha dst pos af g => ?_⟩
  refine .inl ⟨_, w.alloc (.cells cs.toArray t), ?_, h w.heap.size _ ?_⟩
  · simp [execOp, ha.eval hx, Instr.box, newVar, newRow, hv]
  · exact H.alloc (by simp) fun i hi => by simpa using cellsF_get cs i hi

theorem Lo_alloc {cs : List Value} (H : HP W0 w L) (hz : ZeroT P t z sz bytes) (hv : z.cells = cs.toArray)
    (h : ∀ b w', HP W0 w' (Blk b cs.length (cellsF cs) :: L) → Rr (.pointer (some ⟨b, 0, none⟩)) w') : Lo P N (.alloc t) ty e w Rr := by
  refine ⟨fun a ha dst pos af g => ?_⟩
  obtain ⟨i, h1, h2, h3, h4, h5⟩ := hz
  refine .inl ⟨_, w.alloc (.cells cs.toArray t), ?_, h w.heap.size _ ?_⟩
  · simp [execOp, Instr.alloc, zeroValue, typeInfo, program, Sem.run, h1, h2, newVar, newRow, hv]
  · exact H.alloc (by simp) fun i hi => by simpa using cellsF_get cs i hi

theorem range_one (f : Nat → Value) : Array.map f (Array.range 1) = #[f 0] := by
  apply Array.ext
  · simp
  · intro i h1 h2
    simp at h2
    subst h2
    simp

/-- '[]T{v}', v of one cell -/
theorem Lo_bs (H : HP W0 w L) (hx : opv e x = some v) (hv : v.oneCell' = true) (ht : P.underlying t = some (.slice el)) (hz : ZeroT P el z 1 bytes)
    (h : ∀ b w', HP W0 w' (Blk b 1 (fun _ => v) :: L) → Rr (.slice (some ⟨b, 0, none⟩) 1 1) w') : Lo P N (.buildSlice t 1 #[(0, x)]) ty e w Rr := by
  refine ⟨fun a ha dst pos af g => ?_⟩
  obtain ⟨i, h1, h2, h3, h4, h5⟩ := hz
  have hc : v.cells = #[v] := by cases v <;> first | rfl | simp [Value.oneCell'] at hv
  refine .inl ⟨_, w.alloc (.cells #[v] el), ?_, h w.heap.size _ ?_⟩
  · simp [execOp, ha.eval hx, Instr.buildSlice, run_underlying ht, sizeOf, zeroValue, typeInfo, program, Sem.run, h1, h2, h3, Instr.fill, hc, newRow, range_one]
  · exact H.alloc (by simp) fun i hi => by have : i = 0 := by omega
                                           subst this; simp

def appC (es : Nat) (r : Row) (tc : Nat → Value) : Nat → Value := fun i => if i < r.len * es then r.c i else tc (i - r.len * es)

theorem Lo_append {mm es q bt : Nat} {T : TypeId} {R : Nat → Row} {tc : Nat → Value} {s a' : Operand} (H : HP W0 w (Blk bt es tc :: L)) (hj : L[j]? = some (Fam mm es T R)) (hq : q < mm)
    (hs : opv e s = some (R q).val) (ha' : opv e a' = some (.slice (some ⟨bt, 0, none⟩) 1 1)) (ht : P.underlying t = some (.slice T)) (hz : ZeroT P T z es bytes) (hes : 0 < es) (hone : ∀ i, i < es → (tc i).oneCell' = true)
    (hb : ((R q).len + 1) * bytes ≤ 140737488355328) (hl : (R q).len + 1 ≤ 9223372036854775807)
    (h : ∀ r' w', r'.len = (R q).len + 1 → r'.c = appC es (R q) tc → HP W0 w' (L.set j (Fam mm es T (updR R q r'))) → Rr r'.val w') :
    Lo P N (.call { callee := .builtin .append, args := #[s, a'], argTypes := #[t, t] }) ty e w Rr := by
  refine ⟨fun a ha dst pos af g => ?_⟩
  obtain ⟨i, h1, h2, h3, h4, h5⟩ := hz
  subst h3; subst h4
  have hj1 : (Blk bt i.size tc :: L)[j + 1]? = some (Fam mm i.size T R) := by simpa using hj
  have H0 := H.tail
  have hrow := H.row hj1 hq
  let news : List Value := (List.range i.size).map tc
  have hnl : news.length = 1 * i.size := by simp [news]
  have hnews : ∀ q u, news[q]? = some u → w.cell? ((⟨bt, 0, none⟩ : Addr).add q) = some u := fun q u hu => by
    have hqi : q < i.size := by have := (List.getElem?_eq_some_iff.1 hu).1; simpa [news] using this
    have h6 := H.cell (j := 0) (i := q) rfl hqi
    rw [addr_add, Nat.zero_add, h6]
    simp [news, hqi] at hu
    simp [hu]
  have h1c : ∀ u ∈ news, u.oneCell' = true := fun u hu => by
    simp [news] at hu
    obtain ⟨q, hq1, rfl⟩ := hu
    exact hone q hq1
  have run : ∀ v' w', (Builtin.append_ #[t, t] ty #[(R q).val, .slice (some ⟨bt, 0, none⟩) 1 1]).run P w = .ok v' w' →
      (execOp a.eval { dst := dst, op := .call { callee := .builtin .append, args := #[s, a'], argTypes := #[t, t] }, type := ty, pos := pos, after := af, guard := g }).run P w = .ok (.value v') w' := fun v' w' hr => by
    simp only [execOp, resolve, invoke, builtin, Sem.run_bind, Sem.run_pure, Result.andThen_ok, List.map_toArray, List.map_cons, List.map_nil, ha.eval hs, ha.eval ha', hr]
  have grown : ∀ (cap : Nat) (olds : List Value), olds.length = (R q).len * i.size → (∀ q', q' < (R q).len * i.size → olds[q']? = some ((R q).c q')) → (R q).len + 1 ≤ cap → cap ≤ maxLen →
      HP W0 (w.drew.alloc (.cells (olds.toArray ++ news.toArray ++ Builtin.zeroCells z.cells (cap - ((R q).len + 1))) T)) (L.set j (Fam mm i.size T (updR R q ⟨some w.heap.size, (R q).len + 1, cap, appC i.size (R q) tc⟩))) := by
    intro cap olds ho1 ho2 hcap hmax
    refine H0.updRow hj hq (Ext.drewAlloc w _ _) ?_ (fun k hk => .inr ?_)
    · unfold RowOK
      refine ⟨hcap, hmax, _, heap_alloc_new w.drew _, ?_, fun q' hq' => ?_⟩
      · simp only [Array.size_append, List.size_toArray, size_zeroCells, h5, ho1, hnl, ← Nat.add_mul]
        congr 1; omega
      · dsimp only [appC]
        have hlt : q' < (olds.toArray ++ news.toArray).size := by
          simp only [Array.size_append, List.size_toArray, ho1, hnl, ← Nat.add_mul]; exact hq'
        rw [Array.getElem?_append_left hlt]
        by_cases hc : q' < (R q).len * i.size
        · rw [if_pos hc, Array.getElem?_append_left (by simpa [ho1] using hc)]
          simpa using ho2 q' hc
        · rw [if_neg hc, Array.getElem?_append_right (by simp only [List.size_toArray, ho1]; omega)]
          simp only [List.size_toArray, ho1]
          have : q' - (R q).len * i.size < i.size := by
            rw [Nat.add_mul] at hq'; omega
          simp [news, this]
    · simp at hk; subst hk; simp
  unfold RowOK at hrow
  cases hblk : (R q).blk with
  | none =>
    rw [hblk] at hrow
    obtain ⟨hl0, hc0⟩ := hrow
    have hval : (R q).val = .slice none 0 0 := by simp [Row.val, hblk, hl0, hc0]
    have hr := run_append_nil (P := P) w t ty T i z ht h1 h2 ⟨bt, 0, none⟩ 1 1 news hnl hnews (by omega) (by omega) (by rw [hl0] at hb; omega)
    rw [← hval] at hr
    have hge := grownCap_ge w 1 0 T
    have hcm : grownCap w 1 0 T ≤ maxLen := grownCap_le_maxLen w 1 0 T (by simp [maxLen])
    have hG := grown (grownCap w 1 0 T) [] (by simp [hl0]) (by simp [hl0]) (by omega) hcm
    refine .inl ⟨_, _, run _ _ hr, ?_⟩
    have := h ⟨some w.heap.size, (R q).len + 1, grownCap w 1 0 T, appC i.size (R q) tc⟩ (w.drew.alloc (.cells (news.toArray ++ Builtin.zeroCells z.cells (grownCap w 1 0 T - 1)) T)) rfl rfl (by simpa [hl0] using hG)
    simpa [Row.val, hl0] using this
  | some g0 =>
    rw [hblk] at hrow
    obtain ⟨hlc, hcm, cur, hg, hcs, hcur⟩ := hrow
    have hval : (R q).val = .slice (some ⟨g0, 0, none⟩) (R q).len (R q).cap := by simp [Row.val, hblk]
    by_cases hroom : (R q).len + 1 ≤ (R q).cap
    · have hfit : (R q).len * i.size + news.length ≤ cur.size := by rw [hnl, hcs, ← Nat.add_mul]; exact Nat.mul_le_mul_right _ hroom
      have hr := run_append_room (P := P) w t ty T i ht h1 g0 (R q).len (R q).cap cur hg ⟨bt, 0, none⟩ 1 1 news hnl hnews h1c hroom hfit
      rw [← hval] at hr
      refine .inl ⟨_, _, run _ _ hr, ?_⟩
      have := h ⟨(R q).blk, (R q).len + 1, (R q).cap, appC i.size (R q) tc⟩ (w.setRow g0 (cur.toList.take ((R q).len * i.size) ++ news ++ cur.toList.drop ((R q).len * i.size + news.length)).toArray) rfl rfl ?_
      · simpa [Row.val, hblk] using this
      · refine H0.updRow hj hq ⟨rfl, rfl, rfl, by simp, fun k hk hn => setRow_other w g0 k _ fun hkg => hn (by rw [hblk, hkg])⟩ ?_ (fun k hk => .inl hk)
        unfold RowOK
        simp only [hblk]
        refine ⟨hroom, hcm, _, setRow_heap w g0 cur _ T _ hg, ?_, fun q' hq' => ?_⟩
        · simp only [List.size_toArray, List.length_append, List.length_take, List.length_drop, Array.length_toList]; omega
        · have hq2 : q' < (R q).len * i.size + i.size := by rw [Nat.add_mul] at hq'; omega
          dsimp only [appC]
          simp only [List.getElem?_toArray]
          have hlt : q' < (cur.toList.take ((R q).len * i.size) ++ news).length := by
            simp only [List.length_append, List.length_take, Array.length_toList, hnl]; omega
          rw [List.getElem?_append_left hlt]
          by_cases hc : q' < (R q).len * i.size
          · rw [if_pos hc, List.getElem?_append_left (by simp only [List.length_take, Array.length_toList]; omega), List.getElem?_take, if_pos hc]
            simpa using hcur q' hc
          · rw [if_neg hc, List.getElem?_append_right (by simp only [List.length_take, Array.length_toList]; omega)]
            have h7 : (cur.toList.take ((R q).len * i.size)).length = (R q).len * i.size := by simp only [List.length_take, Array.length_toList]; omega
            rw [h7]
            have : q' - (R q).len * i.size < i.size := by omega
            simp [news, this]
    · have holds : ∀ q' u, (cur.toList.take ((R q).len * i.size))[q']? = some u → w.cell? ((⟨g0, 0, none⟩ : Addr).add q') = some u := fun q' u hu => by
        rw [List.getElem?_take] at hu
        split at hu
        · rename_i hc
          rw [addr_add, Nat.zero_add]
          simp only [hof] at hg
          simp [World.cell?, hg]
          simpa using hu
        · cases hu
      have hlen : (cur.toList.take ((R q).len * i.size)).length = (R q).len * i.size := by
        simp only [List.length_take, Array.length_toList]
        have := Nat.mul_le_mul_right i.size hlc
        omega
      have hr := run_append_grow (P := P) w t ty T i z ht h1 h2 ⟨g0, 0, none⟩ (R q).len (R q).cap (cur.toList.take ((R q).len * i.size)) hlen holds ⟨bt, 0, none⟩ 1 1 news hnl hnews (by omega) (by omega)
        (growslice_fits (by omega) hb)
      rw [← hval] at hr
      have hge := grownCap_ge w ((R q).len + 1) (R q).cap T
      have hcm2 : grownCap w ((R q).len + 1) (R q).cap T ≤ maxLen := grownCap_le_maxLen w _ _ T (by simp [maxLen]; omega)
      have hG := grown (grownCap w ((R q).len + 1) (R q).cap T) (cur.toList.take ((R q).len * i.size)) hlen (fun q' hq' => by
        rw [List.getElem?_take, if_pos hq']; simpa using hcur q' hq') hge hcm2
      refine .inl ⟨_, _, run _ _ hr, ?_⟩
      have := h ⟨some w.heap.size, (R q).len + 1, grownCap w ((R q).len + 1) (R q).cap T, appC i.size (R q) tc⟩ _ rfl rfl hG
      simpa [Row.val] using this
end
end Go.Proofs.Qxb6602549a
namespace Go.Proofs.Qxb6602549a
open Go Go.RowKit
/-! ### An array that may be nil -/
def sv (nz : Bool) (b : Nat) : Option Addr := bif nz then some ⟨b, 0, none⟩ else none
def aval (nz : Bool) (b n : Nat) : Value := .slice (sv nz b) n n

def Arr (nz : Bool) (b n : Nat) (f : Nat → Value) : Chunk where
  foot := fun x => nz = true ∧ x = b
  sat := fun h => (nz = false → n = 0) ∧ (nz = true → (Blk b n f).sat h)
  loc := fun h h' he ⟨h1, h2⟩ => ⟨h1, fun hn => (Blk b n f).loc h h' (fun x hx => he x ⟨hn, hx⟩) (h2 hn)⟩

section
variable {P : Program} {N : Nat} {e : Env} {W0 w : World} {L : List Chunk} {x y : Operand} {ty t el : TypeId} {k : IntKind} {m : Int} {j b n i l c sz : Nat} {f g : Nat → Value} {nz : Bool}

theorem HP.anz (H : HP W0 w L) (hj : L[j]? = some (Arr nz b n f)) (hi : i < n) : nz = true := by
  cases nz with
  | true => rfl
  | false => have := (H.sat j _ hj).1 rfl; omega

theorem HP.acell (H : HP W0 w L) (hj : L[j]? = some (Arr nz b n f)) (hi : i < n) : w.cell? ⟨b, i, none⟩ = some (f i) := by
  obtain ⟨arr, T, h1, h2, h3⟩ := (H.sat j _ hj).2 (H.anz hj hi)
  simp only [hof] at h1
  simp [World.cell?, h1, h3 i hi]

theorem HP.acongr (H : HP W0 w L) (hj : L[j]? = some (Arr nz b n f)) (h : ∀ i, i < n → f i = g i) : HP W0 w (L.set j (Arr nz b n g)) := by
  refine H.upd hj ⟨rfl, rfl, rfl, Nat.le_refl _, fun _ _ _ => rfl⟩ ⟨(H.sat j _ hj).1, fun hn => ?_⟩ (fun _ h => .inl h)
  obtain ⟨arr, T, h1, h2, h3⟩ := (H.sat j _ hj).2 hn
  exact ⟨arr, T, h1, h2, fun k hk => by rw [h3 k hk, h k hk]⟩

theorem HP.toArr (H : HP W0 w L) (hj : L[j]? = some (Blk b n f)) : HP W0 w (L.set j (Arr true b n f)) :=
  H.upd hj ⟨rfl, rfl, rfl, Nat.le_refl _, fun _ _ _ => rfl⟩ ⟨by simp, fun _ => H.sat j _ hj⟩ (fun _ h => .inl h.2)

theorem HP.nilArr (H : HP W0 w L) (f : Nat → Value) : HP W0 w (Arr false 0 0 f :: L) :=
  H.push ⟨rfl, rfl, rfl, Nat.le_refl _, fun _ _ _ => rfl⟩ ⟨by simp, by simp⟩ (fun _ h => by simp [Arr] at h)

theorem Pu_ixA (hx : opv e x = some (.slice (sv nz b) l c)) (hy : opv e y = some (.int k m)) (ht : SliT P t el 1) (hm : m = (j : Int)) (hj : j < l) (hnz : nz = true) :
    Pu P N (.indexAddr t x y) ty e (.pointer (some ⟨b, j, none⟩)) := by
  subst hnz
  exact Pu_ix hx hy ht hm hj

theorem HP.cellM (H : HP W0 w L) (hm : Blk b n f ∈ L) (hi : i < n) : w.cell? ⟨b, i, none⟩ = some (f i) := by
  obtain ⟨j, hj⟩ := List.getElem?_of_mem hm
  exact H.cell hj hi
theorem HP.acellM (H : HP W0 w L) (hm : Arr nz b n f ∈ L) (hi : i < n) : w.cell? ⟨b, i, none⟩ = some (f i) := by
  obtain ⟨j, hj⟩ := List.getElem?_of_mem hm
  exact H.acell hj hi
theorem HP.anzM (H : HP W0 w L) (hm : Arr nz b n f ∈ L) (hi : i < n) : nz = true := by
  obtain ⟨j, hj⟩ := List.getElem?_of_mem hm
  exact H.anz hj hi

/-- What came in: nil, or a row of cells in old memory. -/
def Src (W0 : World) (ad : Option Addr) (n : Nat) (f : Nat → Value) : Prop :=
  (ad = none ∧ n = 0) ∨ ∃ x, ad = some x ∧ (0 < n → ∃ b o, x = ⟨b, o, none⟩ ∧ b < W0.heap.size ∧ ∀ i, i < n → W0.cell? ⟨b, o + i, none⟩ = some (f i))

theorem Src.at {ad : Option Addr} (h : Src W0 ad n f) (hi : i < n) : ∃ b o, ad = some ⟨b, o, none⟩ ∧ b < W0.heap.size ∧ ∀ i, i < n → W0.cell? ⟨b, o + i, none⟩ = some (f i) := by
  rcases h with ⟨_, h⟩ | ⟨x, rfl, h⟩
  · omega
  · obtain ⟨b, o, rfl, h1, h2⟩ := h (by omega)
    exact ⟨b, o, rfl, h1, h2⟩

theorem HP.old (H : HP W0 w L) {a : Addr} (ha : a.block < W0.heap.size) : w.cell? a = W0.cell? a := H.below.cell ha
end
end Go.Proofs.Qxb6602549a
