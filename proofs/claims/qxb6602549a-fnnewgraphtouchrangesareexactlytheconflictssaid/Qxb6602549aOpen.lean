/-
  What a law is told of a slice that came in.
-/
import Derived.Test.Qxb6602549aRows
import Derived.Test.Qxb6602549aLaws
import Derived.WalkKit
import Derived.ProofKit
import Derived.OpenShut
import Derived.ShutString
import Derived.ChangeOld
import Derived.Below
namespace Go.Proofs.Qxb6602549a
open Go Go.RowKit Go.ChangeShapes Go.WideShapes Go.ChangeAt
set_option linter.unusedVariables false

theorem block_of_cell {w : World} {b o : Nat} {v : Value} (h : w.cell? ⟨b, o, .none⟩ = some v) : b < w.heap.size := by
  rcases Nat.lt_or_ge b w.heap.size with h1 | h1
  · exact h1
  · simp [World.cell?, Array.getElem?_eq_none h1] at h

section
variable {H : Type} {enc : TypeId × Value → H} {P : Program} {W : World} {spare : Nat → Bool} {held : Bool} {t e : TypeId} {a : Option Addr} {len cap : Nat} {d : DataW H} {p : List MemPlace}

theorem src_any (Q : Value → Prop) (ht : P.underlying t = some (.slice e)) (hc : P.cellsOf e = 1) (hQ : ∀ n cs (x : DataW H × List MemPlace), DataW.trod enc P W 0 spare held n e cs = some x → ∃ v, cs = [v] ∧ Q v)
    (h : DataW.Trod enc P W 0 spare held t (.slice a len cap) d p) : ∃ f : Nat → Value, Src W a len f ∧ ∀ i, i < len → Q (f i) := by
  obtain ⟨fuel, hf⟩ := h
  rcases DataW.trod_slice ht hf with ⟨hcs, _⟩ | ⟨x, l, c, elems, rest, n, _, hcs, _, hb, hl, hm, hlen, hel, _⟩
  · simp [Value.cells] at hcs
    obtain ⟨rfl, rfl, rfl⟩ := hcs
    exact ⟨fun _ => undef, .inl ⟨rfl, rfl⟩, fun i hi => absurd hi (Nat.not_lt_zero i)⟩
  · simp [Value.cells] at hcs
    obtain ⟨rfl, rfl, rfl⟩ := hcs
    have each : ∀ i, i < len → ∃ v, W.cell? (x.add i) = some v ∧ Q v := by
      intro i hi
      have h1 := hel i hi
      rw [hc, Nat.mul_one] at h1
      have h2 : elems[i]? = some (elems[i]'(by omega)) := List.getElem?_eq_getElem (by omega)
      rw [h2, Option.bind_eq_some_iff] at h1
      obtain ⟨cs, h3, h4⟩ := h1
      obtain ⟨v, rfl, hq⟩ := hQ _ _ _ h4
      exact ⟨v, Go.ChangeShapes.cell_of_cells?_one h3, hq⟩
    refine ⟨fun i => (W.cell? (x.add i)).getD undef, .inr ⟨x, rfl, fun hp => ?_⟩, fun i hi => ?_⟩
    · obtain ⟨b, o, sp⟩ := x
      obtain ⟨v, h0, _⟩ := each 0 hp
      have hs : sp = .none := by simpa [Addr.add] using World.cell?_spot h0
      subst hs
      refine ⟨b, o, rfl, block_of_cell (by simpa [Addr.add] using h0), fun i hi => ?_⟩
      obtain ⟨v, h5, _⟩ := each i hi
      have ea : (⟨b, o, .none⟩ : Addr).add i = ⟨b, o + i, .none⟩ := addr_add b o i
      dsimp only
      rw [ea] at h5 ⊢
      rw [h5]; rfl
    · obtain ⟨v, h5, h6⟩ := each i hi
      dsimp only
      rw [h5]; exact h6

theorem Src.mono {f g : Nat → Value} (h : Src W a len f) (hg : ∀ i, i < len → f i = g i) : Src W a len g := by
  rcases h with h | ⟨x, rfl, h⟩
  · exact .inl h
  · refine .inr ⟨x, rfl, fun hp => ?_⟩
    obtain ⟨b, o, h1, h2, h3⟩ := h hp
    exact ⟨b, o, h1, h2, fun i hi => by rw [h3 i hi, hg i hi]⟩

def asInt : Value → Int
  | .int _ n => n
  | _ => 0
def asBool : Value → Bool
  | .bool b => b
  | _ => false

theorem src_ints {k : IntKind} (ht : P.underlying t = some (.slice e)) (he : P.underlying e = some (.int k)) (hc : P.cellsOf e = 1)
    (h : DataW.Trod enc P W 0 spare held t (.slice a len cap) d p) : ∃ f : Nat → Int, Src W a len (fun i => .int k (f i)) ∧ ∀ i, i < len → (Lit.int k (f i)).wf = true := by
  obtain ⟨f, h1, h2⟩ := src_any (fun v => ∃ n, v = .int k n ∧ (Lit.int k n).wf = true) ht hc (fun n cs x hx => by
    obtain ⟨m, rfl, _, hw⟩ := DataW.trod_int he hx
    exact ⟨_, rfl, m, rfl, hw⟩) h
  refine ⟨fun i => asInt (f i), h1.mono fun i hi => ?_, fun i hi => ?_⟩
  · obtain ⟨n, h3, _⟩ := h2 i hi
    dsimp only
    rw [h3]; rfl
  · obtain ⟨n, h3, h4⟩ := h2 i hi
    dsimp only
    rw [h3]; exact h4

theorem src_bools (ht : P.underlying t = some (.slice e)) (he : P.underlying e = some .bool) (hc : P.cellsOf e = 1)
    (h : DataW.Trod enc P W 0 spare held t (.slice a len cap) d p) : ∃ f : Nat → Bool, Src W a len (fun i => .bool (f i)) := by
  obtain ⟨f, h1, h2⟩ := src_any (fun v => ∃ b, v = .bool b) ht hc (fun n cs x hx => by
    obtain ⟨b, rfl, _⟩ := DataW.trod_bool he hx
    exact ⟨_, rfl, b, rfl⟩) h
  refine ⟨fun i => asBool (f i), h1.mono fun i hi => ?_⟩
  obtain ⟨b, h3⟩ := h2 i hi
  dsimp only
  rw [h3]; rfl
end

theorem wf_i32 {n : Int} (h : (Lit.int .i32 n).wf = true) : -2147483648 ≤ n ∧ n ≤ 2147483647 := by
  simp only [Lit.wf, Bool.and_eq_true, decide_eq_true_eq] at h
  exact h

theorem own : ownKnob Try.prog.godebug = .none := by kernel_rfl
theorem laidOut : laidOutB Try.prog = true := by kernel_rfl
end Go.Proofs.Qxb6602549a
