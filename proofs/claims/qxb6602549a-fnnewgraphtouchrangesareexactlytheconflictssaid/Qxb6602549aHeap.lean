/-
  The small program logic, part 4: memory, told by a list of chunks with disjoint footprints.
-/
import Derived.Test.Qxb6602549aOps
namespace Go.Proofs.Qxb6602549a
open Go Go.RowKit
set_option linter.unusedSimpArgs false
set_option linter.unusedVariables false

def hof (w : World) (b : Nat) : Option Obj := w.heap[b]?

structure Chunk where
  foot : Nat → Prop
  sat : (Nat → Option Obj) → Prop
  loc : ∀ h h', (∀ b, foot b → h b = h' b) → sat h → sat h'

/-- Of what was there before (W0) nothing has turned; each chunk of L lies in memory of our own, no two overlap. -/
structure HP (W0 w : World) (L : List Chunk) : Prop where
  below : Below W0.heap.size W0 w
  sat : ∀ (i : Nat) (c : Chunk), L[i]? = some c → c.sat (hof w)
  rng : ∀ (i : Nat) (c : Chunk), L[i]? = some c → ∀ b, c.foot b → W0.heap.size ≤ b ∧ b < w.heap.size
  disj : ∀ (i j : Nat) (c d : Chunk), i ≠ j → L[i]? = some c → L[j]? = some d → ∀ b, c.foot b → ¬ d.foot b

/-- From w to w' at most the blocks of S and new ones have turned. -/
structure Ext (w w' : World) (S : Nat → Prop) : Prop where
  os : w'.os = w.os
  tape : w'.tape = w.tape
  output : w'.output = w.output
  size : w.heap.size ≤ w'.heap.size
  block : ∀ b, b < w.heap.size → ¬ S b → w'.heap[b]? = w.heap[b]?

section
variable {W0 w w' : World} {L : List Chunk} {j : Nat} {c c' : Chunk}

theorem HP.start (w : World) : HP w w [] := ⟨Below.refl _ _, by simp, by simp, by simp⟩

theorem HP.upd (H : HP W0 w L) (hj : L[j]? = some c) (hx : Ext w w' c.foot) (hs : c'.sat (hof w')) (hf : ∀ b, c'.foot b → c.foot b ∨ (w.heap.size ≤ b ∧ b < w'.heap.size)) : HP W0 w' (L.set j c') := by
  have hjl : j < L.length := (List.getElem?_eq_some_iff.1 hj).1
  have other : ∀ i d, i ≠ j → (L.set j c')[i]? = some d → L[i]? = some d := fun i d hi hd => by
    rw [List.getElem?_set_ne (Ne.symm hi)] at hd; exact hd
  have self : (L.set j c')[j]? = some c' := by rw [List.getElem?_set_self hjl]
  refine ⟨H.below.trans ⟨hx.os, hx.tape, hx.output, hx.size, fun k hk => ?_⟩, fun i d hd => ?_, fun i d hd b hb => ?_, fun i k d d' hik hd hd' b hb hb' => ?_⟩
  · refine hx.block k ?_ fun hfk => ?_
    · have := H.below.size; omega
    · have := (H.rng j c hj k hfk).1; omega
  · by_cases hij : i = j
    · subst hij; rw [self] at hd; cases hd; exact hs
    · have hd0 := other i d hij hd
      refine d.loc _ _ (fun b hb => ?_) (H.sat i d hd0)
      exact (hx.block b (H.rng i d hd0 b hb).2 fun hcb => H.disj i j d c hij hd0 hj b hb hcb).symm
  · by_cases hij : i = j
    · subst hij; rw [self] at hd; cases hd
      rcases hf b hb with h | ⟨h1, h2⟩
      · have := H.rng i c hj b h; have := hx.size; exact ⟨by omega, by omega⟩
      · have := H.below.size; exact ⟨by omega, h2⟩
    · have := H.rng i d (other i d hij hd) b hb; have := hx.size; exact ⟨by omega, by omega⟩
  · by_cases hij : i = j
    · subst hij; rw [self] at hd; cases hd
      have hd0 := other k d' (Ne.symm hik) hd'
      rcases hf b hb with h | ⟨h1, h2⟩
      · exact H.disj i k c d' hik hj hd0 b h hb'
      · have := H.rng k d' hd0 b hb'; omega
    · have hd0 := other i d hij hd
      by_cases hkj : k = j
      · subst hkj; rw [self] at hd'; cases hd'
        rcases hf b hb' with h | ⟨h1, h2⟩
        · exact H.disj i k d c hik hd0 hj b hb h
        · have := H.rng i d hd0 b hb; omega
      · exact H.disj i k d d' hik hd0 (other k d' hkj hd') b hb hb'

theorem HP.push (H : HP W0 w L) (hx : Ext w w' fun _ => False) (hs : c.sat (hof w')) (hf : ∀ b, c.foot b → w.heap.size ≤ b ∧ b < w'.heap.size) : HP W0 w' (c :: L) := by
  refine ⟨H.below.trans ⟨hx.os, hx.tape, hx.output, hx.size, fun k hk => hx.block k (by have := H.below.size; omega) id⟩, fun i d hd => ?_, fun i d hd b hb => ?_, fun i k d d' hik hd hd' b hb hb' => ?_⟩
  · cases i with
    | zero => simp at hd; subst hd; exact hs
    | succ i =>
      simp at hd
      exact d.loc _ _ (fun b hb => (hx.block b (H.rng i d hd b hb).2 id).symm) (H.sat i d hd)
  · cases i with
    | zero => simp at hd; subst hd; have := H.below.size; have := hf b hb; exact ⟨by omega, by omega⟩
    | succ i => simp at hd; have := H.rng i d hd b hb; have := hx.size; exact ⟨by omega, by omega⟩
  · cases i with
    | zero =>
      cases k with
      | zero => exact hik rfl
      | succ k => simp at hd hd'; subst hd; have := hf b hb; have := H.rng k d' hd' b hb'; omega
    | succ i =>
      cases k with
      | zero => simp at hd hd'; subst hd'; have := hf b hb'; have := H.rng i d hd b hb; omega
      | succ k => simp at hd hd'; exact H.disj i k d d' (fun h => hik (by rw [h])) hd hd' b hb hb'

theorem HP.tail (H : HP W0 w (c :: L)) : HP W0 w L :=
  ⟨H.below, fun i d hd => H.sat (i + 1) d (by simpa using hd), fun i d hd => H.rng (i + 1) d (by simpa using hd), fun i k d d' hik hd hd' => H.disj (i + 1) (k + 1) d d' (by omega) (by simpa using hd) (by simpa using hd')⟩

theorem HP.step (H : HP W0 w L) (hx : Ext w w' fun _ => False) : HP W0 w' L := by
  have := HP.push (c := ⟨fun _ => False, fun _ => True, fun _ _ _ h => h⟩) H hx trivial (fun _ h => h.elim)
  exact this.tail

theorem Ext.draw (w : World) (n : Nat) (S : Nat → Prop) : Ext w { w with drawn := n } S := ⟨rfl, rfl, rfl, Nat.le_refl _, fun _ _ _ => rfl⟩
theorem HP.draw (H : HP W0 w L) (n : Nat) : HP W0 { w with drawn := n } L := H.step (Ext.draw w n _)
theorem Ext.alloc (w : World) (o : Obj) (S : Nat → Prop) : Ext w (w.alloc o) S := ⟨rfl, rfl, rfl, by simp, fun b hb _ => heap_alloc_old w o hb⟩
theorem Ext.drewAlloc (w : World) (o : Obj) (S : Nat → Prop) : Ext w (w.drew.alloc o) S := ⟨rfl, rfl, rfl, by simp, fun b hb _ => heap_alloc_old w.drew o hb⟩

/-- Drop the chunk at place j. -/
theorem HP.erase (H : HP W0 w L) (j : Nat) : HP W0 w (L.eraseIdx j) := by
  have key : ∀ i d, (L.eraseIdx j)[i]? = some d → L[if i < j then i else i + 1]? = some d := fun i d hd => by
    rw [List.getElem?_eraseIdx] at hd
    by_cases h : i < j
    · rw [if_pos h] at hd ⊢; exact hd
    · rw [if_neg h] at hd ⊢; exact hd
  refine ⟨H.below, fun i d hd => H.sat _ d (key i d hd), fun i d hd => H.rng _ d (key i d hd), fun i k d d' hik hd hd' => H.disj _ _ d d' ?_ (key i d hd) (key k d' hd')⟩
  split <;> split <;> omega

/-! ### A block of cells -/
def Blk (b n : Nat) (c : Nat → Value) : Chunk where
  foot := fun x => x = b
  sat := fun h => ∃ arr T, h b = some (.cells arr T (0, 0)) ∧ arr.size = n ∧ ∀ i, i < n → arr[i]? = some (c i)
  loc := fun h h' he ⟨arr, T, h1, h2, h3⟩ => ⟨arr, T, by rw [← he b rfl]; exact h1, h2, h3⟩

variable {b n i : Nat} {f g : Nat → Value} {v : Value}

theorem HP.cell (H : HP W0 w L) (hj : L[j]? = some (Blk b n f)) (hi : i < n) : w.cell? ⟨b, i, none⟩ = some (f i) := by
  obtain ⟨arr, T, h1, h2, h3⟩ := H.sat j _ hj
  simp only [hof] at h1
  simp [World.cell?, h1, h3 i hi]

theorem HP.frz (H : HP W0 w L) (hj : L[j]? = some (Blk b n f)) : w.frozen? ⟨b, i, none⟩ = false := by
  obtain ⟨arr, T, h1, h2, h3⟩ := H.sat j _ hj
  simp only [hof] at h1
  simp [World.frozen?, h1]

def setF (f : Nat → Value) (i : Nat) (v : Value) : Nat → Value := fun k => if k = i then v else f k

theorem setCell_heap {arr : Array Value} {T : TypeId} {fr : Nat × Nat} (h : w.heap[b]? = some (.cells arr T fr)) (i : Nat) (v : Value) : (w.setCell ⟨b, i, none⟩ v).heap[b]? = some (.cells (arr.setIfInBounds i v) T fr) := by
  simp [World.setCell, Array.getElem?_modify, h]

theorem Ext.setCell (w : World) (b i : Nat) (v : Value) : Ext w (w.setCell ⟨b, i, none⟩ v) (fun x => x = b) :=
  ⟨rfl, rfl, rfl, by simp [World.setCell], fun k _ hk => Below.heap_setCell w ⟨b, i, none⟩ v k hk⟩

theorem HP.store (H : HP W0 w L) (hj : L[j]? = some (Blk b n f)) (hi : i < n) (v : Value) : HP W0 (w.setCell ⟨b, i, none⟩ v) (L.set j (Blk b n (setF f i v))) := by
  refine H.upd hj (Ext.setCell w b i v) ?_ (fun _ h => .inl h)
  obtain ⟨arr, T, h1, h2, h3⟩ := H.sat j _ hj
  refine ⟨arr.setIfInBounds i v, T, setCell_heap h1 i v, by simp [h2], fun k hk => ?_⟩
  unfold setF
  by_cases hki : k = i
  · subst hki
    simp [h2, hk]
  · rw [Array.getElem?_setIfInBounds_ne (Ne.symm hki), h3 k hk, if_neg hki]

theorem HP.congr (H : HP W0 w L) (hj : L[j]? = some (Blk b n f)) (h : ∀ i, i < n → f i = g i) : HP W0 w (L.set j (Blk b n g)) := by
  refine H.upd hj ⟨rfl, rfl, rfl, Nat.le_refl _, fun _ _ _ => rfl⟩ ?_ (fun _ h => .inl h)
  obtain ⟨arr, T, h1, h2, h3⟩ := H.sat j _ hj
  exact ⟨arr, T, h1, h2, fun k hk => by rw [h3 k hk, h k hk]⟩

theorem HP.alloc (H : HP W0 w L) {arr : Array Value} {T : TypeId} (h2 : arr.size = n) (h3 : ∀ i, i < n → arr[i]? = some (f i)) : HP W0 (w.alloc (.cells arr T)) (Blk w.heap.size n f :: L) := by
  refine H.push (Ext.alloc w _ _) ⟨arr, T, heap_alloc_new w _, h2, h3⟩ fun b hb => ?_
  have : b = w.heap.size := hb
  subst this
  simp

/-! ### Rows that grow -/
structure Row where
  blk : Option Nat
  len : Nat
  cap : Nat
  c : Nat → Value

def Row.val (r : Row) : Value := .slice (r.blk.map fun b => ⟨b, 0, none⟩) r.len r.cap
def nilRow : Row := ⟨none, 0, 0, fun _ => undef⟩

def RowOK (h : Nat → Option Obj) (es : Nat) (T : TypeId) (r : Row) : Prop :=
  match r.blk with
  | none => r.len = 0 ∧ r.cap = 0
  | some b => r.len ≤ r.cap ∧ r.cap ≤ maxLen ∧ ∃ arr, h b = some (.cells arr T (0, 0)) ∧ arr.size = r.cap * es ∧ ∀ i, i < r.len * es → arr[i]? = some (r.c i)

/-- m rows, each in a block of its own (or nil); an element takes es cells and is of type T. -/
def Fam (m es : Nat) (T : TypeId) (R : Nat → Row) : Chunk where
  foot := fun b => ∃ x, x < m ∧ (R x).blk = some b
  sat := fun h => (∀ x, x < m → RowOK h es T (R x)) ∧ ∀ x y, x < m → y < m → (R x).blk = (R y).blk → (R x).blk ≠ none → x = y
  loc := fun h h' he ⟨h1, h2⟩ => ⟨fun x hx => by
    have := h1 x hx
    unfold RowOK at *
    cases hb : (R x).blk with
    | none => simpa [hb] using this
    | some b => rw [hb] at this; simp only at this ⊢; rw [← he b ⟨x, hx, hb⟩]; exact this, h2⟩

variable {m es x : Nat} {T : TypeId} {R : Nat → Row}

theorem HP.famNil (H : HP W0 w L) (m es : Nat) (T : TypeId) : HP W0 w (Fam m es T (fun _ => nilRow) :: L) := by
  refine H.push ⟨rfl, rfl, rfl, Nat.le_refl _, fun _ _ _ => rfl⟩ ⟨fun x _ => by simp [RowOK, nilRow], fun x y _ _ _ h => by simp [nilRow] at h⟩ ?_
  rintro b ⟨x, _, h⟩
  simp [nilRow] at h

theorem HP.row (H : HP W0 w L) (hj : L[j]? = some (Fam m es T R)) (hx : x < m) : RowOK (hof w) es T (R x) := (H.sat j _ hj).1 x hx

/-- a row with elements lies in a block -/
theorem HP.rblk (H : HP W0 w L) (hj : L[j]? = some (Fam m es T R)) (hx : x < m) (hl : 0 < (R x).len) : ∃ b, (R x).blk = some b ∧ (R x).val = .slice (some ⟨b, 0, none⟩) (R x).len (R x).cap := by
  have h := H.row hj hx
  unfold RowOK at h
  cases hb : (R x).blk with
  | none => rw [hb] at h; have := h.1; omega
  | some b => exact ⟨b, rfl, by simp [Row.val, hb]⟩

theorem HP.rcap (H : HP W0 w L) (hj : L[j]? = some (Fam m es T R)) (hx : x < m) : (R x).len ≤ (R x).cap := by
  have h := H.row hj hx
  unfold RowOK at h
  cases hb : (R x).blk with
  | none => rw [hb] at h; have := h.1; have := h.2; omega
  | some b => rw [hb] at h; exact h.1

theorem HP.rcell (H : HP W0 w L) (hj : L[j]? = some (Fam m es T R)) (hx : x < m) (hb : (R x).blk = some b) (hi : i < (R x).len * es) : w.cell? ⟨b, i, none⟩ = some ((R x).c i) := by
  have h := H.row hj hx
  unfold RowOK at h
  rw [hb] at h
  obtain ⟨_, _, arr, h1, h2, h3⟩ := h
  simp only [hof] at h1
  simp [World.cell?, h1, h3 i hi]

theorem HP.rfrz (H : HP W0 w L) (hj : L[j]? = some (Fam m es T R)) (hx : x < m) (hb : (R x).blk = some b) : w.frozen? ⟨b, i, none⟩ = false := by
  have h := H.row hj hx
  unfold RowOK at h
  rw [hb] at h
  obtain ⟨_, _, arr, h1, h2, h3⟩ := h
  simp only [hof] at h1
  simp [World.frozen?, h1]

def updR (R : Nat → Row) (x : Nat) (r : Row) : Nat → Row := fun y => if y = x then r else R y

theorem updR_self (R : Nat → Row) (x : Nat) (r : Row) : updR R x r x = r := by simp [updR]
theorem updR_ne (R : Nat → Row) {x y : Nat} (r : Row) (h : y ≠ x) : updR R x r y = R y := by simp [updR, h]

/-- One row is exchanged for another: in the same block, or in a new one. -/
theorem HP.updRow (H : HP W0 w L) (hj : L[j]? = some (Fam m es T R)) (hx : x < m) {r : Row} (he : Ext w w' (fun k => (R x).blk = some k)) (hr : RowOK (hof w') es T r)
    (hb : ∀ k, r.blk = some k → (R x).blk = some k ∨ (w.heap.size ≤ k ∧ k < w'.heap.size)) : HP W0 w' (L.set j (Fam m es T (updR R x r))) := by
  have hsat := H.sat j _ hj
  have hrng := H.rng j _ hj
  refine H.upd hj ⟨he.os, he.tape, he.output, he.size, fun k hk hn => he.block k hk fun h => hn ⟨x, hx, h⟩⟩ ⟨fun y hy => ?_, fun y z hy hz hyz hne => ?_⟩ ?_
  · by_cases hyx : y = x
    · subst hyx; rw [updR_self]; exact hr
    · rw [updR_ne R r hyx]
      have h0 := hsat.1 y hy
      unfold RowOK at *
      cases hyb : (R y).blk with
      | none => simpa [hyb] using h0
      | some k =>
        rw [hyb] at h0
        simp only at h0 ⊢
        have : hof w' k = hof w k := he.block k (hrng k ⟨y, hy, hyb⟩).2 fun h => hyx (hsat.2 y x hy hx (by rw [hyb, h]) (by simp [hyb]))
        rw [this]; exact h0
  · by_cases hyx : y = x
    · subst hyx
      by_cases hzx : z = y
      · exact hzx.symm
      · rw [updR_self, updR_ne R r hzx] at hyz
        rw [updR_self] at hne
        cases hrb : r.blk with
        | none => exact absurd hrb hne
        | some k =>
          rw [hrb] at hyz
          rcases hb k hrb with h | ⟨h1, h2⟩
          · exact absurd (hsat.2 z y hz hy (by rw [← hyz, h]) (by rw [← hyz]; simp)) hzx
          · have := (hrng k ⟨z, hz, hyz.symm⟩).2; omega
    · rw [updR_ne R r hyx] at hyz hne
      by_cases hzx : z = x
      · subst hzx
        rw [updR_self] at hyz
        cases hrb : r.blk with
        | none => rw [hrb] at hyz; exact absurd hyz hne
        | some k =>
          rw [hrb] at hyz
          rcases hb k hrb with h | ⟨h1, h2⟩
          · exact absurd (hsat.2 y z hy hz (by rw [hyz, h]) hne) hyx
          · have := (hrng k ⟨y, hy, hyz⟩).2; omega
      · rw [updR_ne R r hzx] at hyz
        exact hsat.2 y z hy hz hyz hne
  · rintro k ⟨y, hy, hyk⟩
    by_cases hyx : y = x
    · subst hyx
      rw [updR_self] at hyk
      rcases hb k hyk with h | h
      · exact .inl ⟨y, hy, h⟩
      · exact .inr h
    · rw [updR_ne R r hyx] at hyk
      exact .inl ⟨y, hy, hyk⟩

/-- a store into a row -/
theorem HP.rstore (H : HP W0 w L) (hj : L[j]? = some (Fam m es T R)) (hx : x < m) (hb : (R x).blk = some b) (v : Value) (i : Nat) :
    HP W0 (w.setCell ⟨b, i, none⟩ v) (L.set j (Fam m es T (updR R x ⟨(R x).blk, (R x).len, (R x).cap, setF (R x).c i v⟩))) := by
  have h := H.row hj hx
  unfold RowOK at h
  rw [hb] at h
  obtain ⟨h0, h00, arr, h1, h2, h3⟩ := h
  have hx1 := Ext.setCell w b i v
  refine H.updRow hj hx ⟨hx1.os, hx1.tape, hx1.output, hx1.size, fun k hk hn => hx1.block k hk fun hkb => hn (by rw [hb, hkb])⟩ ?_ (fun k hk => .inl hk)
  unfold RowOK
  simp only [hb]
  refine ⟨h0, h00, arr.setIfInBounds i v, setCell_heap h1 i v, by simp [h2], fun k hk => ?_⟩
  unfold setF
  have hks : k < arr.size := by
    have h5 := h3 k hk
    exact (Array.getElem?_eq_some_iff.1 h5).1
  by_cases hki : k = i
  · subst hki
    simp [hks]
  · rw [Array.getElem?_setIfInBounds_ne (Ne.symm hki), h3 k hk, if_neg hki]

/-- a row is cut short: 's[:h]' -/
theorem HP.rcut (H : HP W0 w L) (hj : L[j]? = some (Fam m es T R)) (hx : x < m) {h : Nat} (hh : h ≤ (R x).len) : HP W0 w (L.set j (Fam m es T (updR R x ⟨(R x).blk, h, (R x).cap, (R x).c⟩))) := by
  have h1 := H.row hj hx
  refine H.updRow hj hx ⟨rfl, rfl, rfl, Nat.le_refl _, fun _ _ _ => rfl⟩ ?_ (fun k hk => .inl hk)
  unfold RowOK at *
  cases hb : (R x).blk with
  | none => rw [hb] at h1; simp only; exact ⟨by have := h1.1; omega, h1.2⟩
  | some b =>
    rw [hb] at h1
    obtain ⟨h0, h00, arr, h3, h4, h5⟩ := h1
    simp only
    exact ⟨by omega, h00, arr, h3, h4, fun i hi => h5 i (Nat.lt_of_lt_of_le hi (Nat.mul_le_mul_right _ hh))⟩

/-- the content of a row told otherwise -/
theorem HP.rcongr (H : HP W0 w L) (hj : L[j]? = some (Fam m es T R)) {R' : Nat → Row} (hs : ∀ x, x < m → (R x).blk = (R' x).blk ∧ (R x).len = (R' x).len ∧ (R x).cap = (R' x).cap ∧ ∀ i, i < (R x).len * es → (R x).c i = (R' x).c i) :
    HP W0 w (L.set j (Fam m es T R')) := by
  have hsat := H.sat j _ hj
  refine H.upd hj ⟨rfl, rfl, rfl, Nat.le_refl _, fun _ _ _ => rfl⟩ ⟨fun x hx => ?_, fun x y hx hy hxy hne => ?_⟩ ?_
  · obtain ⟨h1, h2, h3, h4⟩ := hs x hx
    have h0 := hsat.1 x hx
    unfold RowOK at *
    rw [← h1]
    cases hb : (R x).blk with
    | none => rw [hb] at h0; simp only at h0 ⊢; rw [← h2, ← h3]; exact h0
    | some b =>
      rw [hb] at h0
      obtain ⟨g0, g00, arr, g1, g2, g3⟩ := h0
      simp only
      exact ⟨by omega, by omega, arr, g1, by rw [g2, h3], fun i hi => by rw [← h2] at hi; rw [g3 i hi, h4 i hi]⟩
  · exact hsat.2 x y hx hy (by rw [(hs x hx).1, (hs y hy).1]; exact hxy) (by rw [(hs x hx).1]; exact hne)
  · rintro b ⟨x, hx, hb⟩
    exact .inl ⟨x, hx, by rw [(hs x hx).1]; exact hb⟩
end
end Go.Proofs.Qxb6602549a
namespace Go.Proofs.Qxb6602549a
open Go Go.RowKit
theorem CE_drawH {P : Program} {N id : Nat} {full : List Oper} {e : Env} {W0 w : World} {L : List Chunk} {p : Post} (H : HP W0 w L) (S : World → Prop) (ord : List (Nat × Nat)) (hm : P.follows .mixedOrders = true) (hlen : full.length = ord.length)
    (hord : (Region.noSelect full.toArray && ordFrom full.toArray (Array.replicate ord.length false) ord) = true)
    (h : ∀ w1, HP W0 w1 L → AO P N full S ord e w1 p.norm) : CE P N (.region id full.toArray true) e w p := CE_draw S ord hm hlen hord (h _ (H.draw _))
end Go.Proofs.Qxb6602549a
