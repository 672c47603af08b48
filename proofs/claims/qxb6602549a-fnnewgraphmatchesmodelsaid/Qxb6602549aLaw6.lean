/-
  FnNewGraphOutHasTheConflictGraphsPaths, walked.
-/
import Derived.Test.Qxb6602549aGt
import Derived.Test.Qxb6602549aPaths
namespace Go.Proofs.Qxb6602549a
open Go Go.RowKit
set_option linter.unusedSimpArgs false
set_option linter.unusedVariables false

def cntT (f : Nat → Bool) : Nat → Nat
  | 0 => 0
  | n + 1 => cntT f n + (if f n = true then 1 else 0)
theorem cntT_le (f : Nat → Bool) : ∀ n, cntT f n ≤ n
  | 0 => Nat.le_refl _
  | n + 1 => by
    have := cntT_le f n
    simp only [cntT]; split <;> omega
def updB (f : Nat → Bool) (v : Nat) (b : Bool) : Nat → Bool := fun i => if i = v then b else f i
theorem cntT_out (f : Nat → Bool) (v : Nat) (b : Bool) : ∀ n, n ≤ v → cntT (updB f v b) n = cntT f n
  | 0, _ => rfl
  | n + 1, hn => by
    simp only [cntT]
    rw [cntT_out f v b n (by omega)]
    have : updB f v b n = f n := by unfold updB; rw [if_neg (by omega)]
    rw [this]
theorem cntT_set (f : Nat → Bool) (v : Nat) (hf : f v = false) : ∀ n, v < n → cntT (updB f v true) n = cntT f n + 1
  | 0, hv => by omega
  | n + 1, hv => by
    simp only [cntT]
    by_cases h1 : v = n
    · subst h1
      rw [cntT_out f v true v (Nat.le_refl _), hf]
      have : updB f v true v = true := by unfold updB; rw [if_pos rfl]
      rw [this]; rfl
    · rw [cntT_set f v hf n (by omega)]
      have : updB f v true n = f n := by unfold updB; rw [if_neg (fun hh => h1 hh.symm)]
      rw [this]; omega
theorem cntT_zero {f : Nat → Bool} : ∀ n, (∀ i, i < n → f i = false) → cntT f n = 0
  | 0, _ => rfl
  | n + 1, hf => by
    simp only [cntT]
    rw [cntT_zero n (fun i hi => hf i (by omega)), hf n (by omega)]; rfl
theorem updB_self (f : Nat → Bool) (v : Nat) (b : Bool) : updB f v b v = b := by unfold updB; rw [if_pos rfl]
theorem updB_ne (f : Nat → Bool) {v u : Nat} (b : Bool) (h : u ≠ v) : updB f v b u = f u := by unfold updB; rw [if_neg h]
theorem updB_mono {f : Nat → Bool} {v u : Nat} (h : f u = true) : updB f v true u = true := by
  unfold updB; split
  · rfl
  · exact h
theorem setB (f : Nat → Bool) (v : Nat) (b : Bool) (i : Nat) : setF (fun i => .bool (f i)) v (.bool b) i = .bool (updB f v b i) := by
  unfold setF updB; split <;> rfl

section
variable {h : HRec} {p k : Nat} {cf : Nat → Bool}
theorem conf_set (hcf : ∀ a b, a < h.nt → b < h.nt → (cf (a * h.nt + b) = true ↔ ConfK h p k a b)) (hp : Pair h k p (h.T k) (h.T p)) (hk : h.T k < h.nt) (hT : h.T p < h.nt) :
    ∀ a b, a < h.nt → b < h.nt → (updB cf (h.T k * h.nt + h.T p) true (a * h.nt + b) = true ↔ ConfK h p (k + 1) a b) := by
  intro a b ha hb
  rw [ConfK.step]
  by_cases h1 : a * h.nt + b = h.T k * h.nt + h.T p
  · obtain ⟨rfl, rfl⟩ := idx_inj hb hT h1
    rw [updB_self]
    exact ⟨fun _ => .inr hp, fun _ => rfl⟩
  · rw [updB_ne _ _ h1, hcf a b ha hb]
    refine ⟨fun hh => .inl hh, fun hh => ?_⟩
    rcases hh with hh | hh
    · exact hh
    · exfalso
      apply h1
      rw [hh.tq, hh.tp]
theorem conf_same (hcf : ∀ a b, a < h.nt → b < h.nt → (cf (a * h.nt + b) = true ↔ ConfK h p k a b)) (hp : ∀ a b, ¬ Pair h k p a b) :
    ∀ a b, a < h.nt → b < h.nt → (cf (a * h.nt + b) = true ↔ ConfK h p (k + 1) a b) := by
  intro a b ha hb
  rw [ConfK.step, hcf a b ha hb]
  exact ⟨fun hh => .inl hh, fun hh => hh.elim id (fun hh => absurd hh (hp a b))⟩
theorem Conf.lt {a b : Nat} (ho : HOK h) (hc : Conf h a b) : a < h.nt ∧ b < h.nt := by
  obtain ⟨q, p, h1, h2, hp⟩ := hc
  have h3 := (ho.ok q (by omega)).1
  have h4 := (ho.ok p h2).1
  rw [hp.tq] at h3
  rw [hp.tp] at h4
  exact ⟨h3, h4⟩
end

/-- the search from a, when the first k of the queue Q are done -/
structure BFS (h : HRec) (a k : Nat) (Q : List Nat) (sn : Nat → Bool) : Prop where
  len : Q.length = cntT sn h.nt
  qs : ∀ v, v ∈ Q → v < h.nt ∧ sn v = true
  sq : ∀ v, v < h.nt → sn v = true → v ∈ Q
  me : sn a = true
  done : ∀ j, j < k → ∀ v, v ∈ outF h (Q.getD j 0) h.n → sn v = true

theorem BFS.one {h : HRec} {a : Nat} {sn : Nat → Bool} (ha : a < h.nt) (hs : ∀ j, j < h.nt → sn j = false) : BFS h a 0 [a] (updB sn a true) := by
  refine ⟨by rw [cntT_set sn a (hs a ha) _ ha, cntT_zero _ hs]; rfl, fun v hv => ?_, fun v hv h1 => ?_, updB_self _ _ _, fun j hj => absurd hj (Nat.not_lt_zero j)⟩
  · rw [List.mem_singleton.1 hv]; exact ⟨ha, updB_self _ _ _⟩
  · by_cases h2 : v = a
    · rw [h2]; simp
    · rw [updB_ne _ _ h2, hs v hv] at h1; cases h1

theorem BFS.push {h : HRec} {a k v : Nat} {Q : List Nat} {sn : Nat → Bool} (hb : BFS h a k Q sn) (hk : k ≤ Q.length) (hv : v < h.nt) (hs : sn v = false) : BFS h a k (Q ++ [v]) (updB sn v true) := by
  refine ⟨by rw [List.length_append, cntT_set sn v hs _ hv, hb.len]; rfl, fun u hu => ?_, fun u hu hs' => ?_, updB_mono hb.me, fun j hj u hu => ?_⟩
  · rcases List.mem_append.1 hu with h1 | h1
    · exact ⟨(hb.qs u h1).1, updB_mono (hb.qs u h1).2⟩
    · rw [List.mem_singleton.1 h1]; exact ⟨hv, updB_self _ _ _⟩
  · by_cases h1 : u = v
    · rw [h1]; simp
    · rw [updB_ne _ _ h1] at hs'
      exact List.mem_append.2 (.inl (hb.sq u hu hs'))
  · have e : (Q ++ [v]).getD j 0 = Q.getD j 0 := by simp [List.getElem?_append_left (show j < Q.length by omega)]
    rw [e] at hu
    exact updB_mono (hb.done j hj u hu)

theorem getD_of_mem {l : List Nat} {v : Nat} (hv : v ∈ l) : ∃ q, q < l.length ∧ l.getD q 0 = v := by
  obtain ⟨q, hq, e⟩ := List.getElem_of_mem hv
  exact ⟨q, hq, by simp [List.getD, hq, e]⟩

theorem BFS.closed {h : HRec} {a : Nat} {Q : List Nat} {sn : Nat → Bool} (ho : HOK h) (hb : BFS h a Q.length Q sn) : ∀ u v, (u < h.nt ∧ sn u = true) → v ∈ outF h u h.n → (v < h.nt ∧ sn v = true) := by
  intro u v hu hv
  refine ⟨(Conf.lt ho (outF_conf h.n (Nat.le_refl _) hv)).2, ?_⟩
  obtain ⟨j, hj, e⟩ := List.getElem_of_mem (hb.sq u hu.1 hu.2)
  refine hb.done j hj v ?_
  have : Q.getD j 0 = u := by simp [List.getD, hj, e]
  rw [this]; exact hv

structure L6 where
  a : Nat
  Rq : Nat → Row


set_option maxHeartbeats 2000000 in
theorem law6 {w : World} {a0 a1 a2 a3 a5 a6 : Option Addr} {l0 l1 l2 l3 l5 l6 c0 c1 c2 c3 c5 c6 : Nat} {A X T I E : Nat → Int} {B : Nat → Bool} {m : Int} (ar : Args w a0 a1 a2 a3 a5 a6 l0 l1 l2 l3 l5 l6 A X T I E B) :
    Calls Try.prog 6 #[.slice a0 l0 c0, .slice a1 l1 c1, .slice a2 l2 c2, .slice a3 l3 c3, .int .i64 m, .slice a5 l5 c5, .slice a6 l6 c6] w fun x w' => x = .returned (.bool true) ∧ Below w.heap.size w w' := by
  have H := HP.start w
  obtain ⟨s0, s1, s2, s3, s5, s6, hT, hI⟩ := ar
  refine calls_CE Try.func6 rfl Try.ntmps6 rfl rfl ?_
  refine CE_seq ?_
  refine CE_reg ?_
  refine EL_p (Pu_as rfl) rfl ?_
  refine EL_nil ?_
  refine CE_seq ?_
  refine CE_seq ?_
  refine CE_reg ?_
  refine EL_p (Pu_mv rfl) rfl ?_
  refine EL_p (Pu_mv rfl) rfl ?_
  refine EL_p (Pu_mv rfl) rfl ?_
  refine EL_p (Pu_mv rfl) rfl ?_
  refine EL_p (Pu_mv rfl) rfl ?_
  refine EL_p (Pu_mv rfl) rfl ?_
  refine EL_p (Pu_mv rfl) rfl ?_
  refine EL_L rfl (Lo_call ca22 rfl ((bytes22 H).mono (fun y w1 hh => ?_)))
  obtain ⟨⟨bb, hy, hbb⟩, H1⟩ := hh
  refine ⟨_, hy, ?_⟩
  refine EL_p (Pu_not rfl) rfl ?_
  refine EL_nil ?_
  refine CE_cB rfl (fun c43 => ?_) (fun c43 => ?_)
  · refine CE_seq ?_
    refine CE_reg ?_
    refine EL_p (Pu_as rfl) rfl ?_
    refine EL_nil ?_
    refine CE_ret ?_
    exact ⟨_, rfl, rfl, H1.below⟩
  · have hb := hbb c43
    refine CE_skip ?_
    refine CE_seq ?_
    refine CE_seq ?_
    refine CE_reg ?_
    refine EL_p (Pu_mv rfl) rfl ?_
    refine EL_p (Pu_len rfl sl22 rfl) rfl ?_
    refine EL_p (Pu_mv rfl) rfl ?_
    refine EL_p (Pu_len rfl sl23 rfl) rfl ?_
    refine EL_p (Pu_mul rfl rfl (w64 (by omega))) rfl ?_
    refine EL_p (Pu_add rfl rfl (w64 (by omega))) rfl ?_
    refine EL_p (Pu_mv rfl) rfl ?_
    refine EL_p (Pu_len rfl sl24 rfl) rfl ?_
    refine EL_p (Pu_mul rfl rfl (w64 (by omega))) rfl ?_
    refine EL_p (Pu_add rfl rfl (w64 (by omega))) rfl ?_
    refine EL_p (Pu_mv rfl) rfl ?_
    refine EL_p (Pu_len rfl sl24 rfl) rfl ?_
    refine EL_p (Pu_mul rfl rfl (w64 (by omega))) rfl ?_
    refine EL_p (Pu_add rfl rfl (w64 (by omega))) rfl ?_
    refine EL_p (Pu_mv rfl) rfl ?_
    refine EL_p (Pu_len rfl sl25 rfl) rfl ?_
    refine EL_p (Pu_add rfl rfl (w64 (by omega))) rfl ?_
    refine EL_p (Pu_mv rfl) rfl ?_
    refine EL_p (Pu_len rfl sl23 rfl) rfl ?_
    refine EL_p (Pu_mul rfl rfl (w64 (by omega))) rfl ?_
    refine EL_p (Pu_add rfl rfl (w64 (by omega))) rfl ?_
    refine EL_p (Pu_gtr rfl rfl) rfl ?_
    refine EL_nil ?_
    refine CE_cP rfl (fun c65 => ?_) (fun c65 => ?_)
    · refine CE_seq ?_
      refine CE_reg ?_
      refine EL_p (Pu_as rfl) rfl ?_
      refine EL_nil ?_
      refine CE_ret ?_
      exact ⟨_, rfl, rfl, H1.below⟩
    · refine CE_skip ?_
      refine CE_seq ?_
      refine CE_seq ?_
      refine CE_reg ?_
      refine EL_p (Pu_mv rfl) rfl ?_
      refine EL_p (Pu_len rfl sl22 rfl) rfl ?_
      refine EL_p (Pu_gtr rfl rfl) rfl ?_
      refine EL_p (Pu_mv rfl) rfl ?_
      refine EL_gP rfl rfl (fun g69 => ?_) (fun g69 => ?_)
      · refine EL_no rfl rfl rfl rfl ?_
        refine EL_no rfl rfl rfl rfl ?_
        refine EL_no rfl rfl rfl rfl ?_
        refine EL_p (Pu_pt rfl rfl) rfl ?_
        refine EL_p (Pu_mv rfl) rfl ?_
        refine EL_no rfl rfl rfl rfl ?_
        refine EL_no rfl rfl rfl rfl ?_
        refine EL_no rfl rfl rfl rfl ?_
        refine EL_p (Pu_pt rfl rfl) rfl ?_
        refine EL_p (Pu_mv rfl) rfl ?_
        refine EL_no rfl rfl rfl rfl ?_
        refine EL_no rfl rfl rfl rfl ?_
        refine EL_no rfl rfl rfl rfl ?_
        refine EL_p (Pu_pt rfl rfl) rfl ?_
        refine EL_p (Pu_mv rfl) rfl ?_
        refine EL_no rfl rfl rfl rfl ?_
        refine EL_no rfl rfl rfl rfl ?_
        refine EL_no rfl rfl rfl rfl ?_
        refine EL_p (Pu_pt rfl rfl) rfl ?_
        refine EL_p (Pu_mv rfl) rfl ?_
        refine EL_no rfl rfl rfl rfl ?_
        refine EL_no rfl rfl rfl rfl ?_
        refine EL_no rfl rfl rfl rfl ?_
        refine EL_p (Pu_pt rfl rfl) rfl ?_
        refine EL_nil ?_
        refine CE_cond_t rfl ?_
        refine CE_seq ?_
        refine CE_reg ?_
        refine EL_p (Pu_as rfl) rfl ?_
        refine EL_nil ?_
        refine CE_ret ?_
        exact ⟨_, rfl, rfl, H1.below⟩
      · refine EL_yes rfl rfl ?_
        refine EL_p (Pu_mv rfl) rfl ?_
        refine EL_yes rfl rfl ?_
        refine EL_p (Pu_len rfl sl23 rfl) rfl ?_
        refine EL_yes rfl rfl ?_
        refine EL_p (Pu_gtr rfl rfl) rfl ?_
        refine EL_p (Pu_pf rfl rfl) rfl ?_
        refine EL_p (Pu_mv rfl) rfl ?_
        refine EL_gP rfl rfl (fun g74 => ?_) (fun g74 => ?_)
        · refine EL_no rfl rfl rfl rfl ?_
          refine EL_no rfl rfl rfl rfl ?_
          refine EL_no rfl rfl rfl rfl ?_
          refine EL_p (Pu_pt rfl rfl) rfl ?_
          refine EL_p (Pu_mv rfl) rfl ?_
          refine EL_no rfl rfl rfl rfl ?_
          refine EL_no rfl rfl rfl rfl ?_
          refine EL_no rfl rfl rfl rfl ?_
          refine EL_p (Pu_pt rfl rfl) rfl ?_
          refine EL_p (Pu_mv rfl) rfl ?_
          refine EL_no rfl rfl rfl rfl ?_
          refine EL_no rfl rfl rfl rfl ?_
          refine EL_no rfl rfl rfl rfl ?_
          refine EL_p (Pu_pt rfl rfl) rfl ?_
          refine EL_p (Pu_mv rfl) rfl ?_
          refine EL_no rfl rfl rfl rfl ?_
          refine EL_no rfl rfl rfl rfl ?_
          refine EL_no rfl rfl rfl rfl ?_
          refine EL_p (Pu_pt rfl rfl) rfl ?_
          refine EL_nil ?_
          refine CE_cond_t rfl ?_
          refine CE_seq ?_
          refine CE_reg ?_
          refine EL_p (Pu_as rfl) rfl ?_
          refine EL_nil ?_
          refine CE_ret ?_
          exact ⟨_, rfl, rfl, H1.below⟩
        · refine EL_yes rfl rfl ?_
          refine EL_p (Pu_mv rfl) rfl ?_
          refine EL_yes rfl rfl ?_
          refine EL_p (Pu_len rfl sl24 rfl) rfl ?_
          refine EL_yes rfl rfl ?_
          refine EL_p (Pu_gtr rfl rfl) rfl ?_
          refine EL_p (Pu_pf rfl rfl) rfl ?_
          refine EL_p (Pu_mv rfl) rfl ?_
          refine EL_gP rfl rfl (fun g79 => ?_) (fun g79 => ?_)
          · refine EL_no rfl rfl rfl rfl ?_
            refine EL_no rfl rfl rfl rfl ?_
            refine EL_no rfl rfl rfl rfl ?_
            refine EL_p (Pu_pt rfl rfl) rfl ?_
            refine EL_p (Pu_mv rfl) rfl ?_
            refine EL_no rfl rfl rfl rfl ?_
            refine EL_no rfl rfl rfl rfl ?_
            refine EL_no rfl rfl rfl rfl ?_
            refine EL_p (Pu_pt rfl rfl) rfl ?_
            refine EL_p (Pu_mv rfl) rfl ?_
            refine EL_no rfl rfl rfl rfl ?_
            refine EL_no rfl rfl rfl rfl ?_
            refine EL_no rfl rfl rfl rfl ?_
            refine EL_p (Pu_pt rfl rfl) rfl ?_
            refine EL_nil ?_
            refine CE_cond_t rfl ?_
            refine CE_seq ?_
            refine CE_reg ?_
            refine EL_p (Pu_as rfl) rfl ?_
            refine EL_nil ?_
            refine CE_ret ?_
            exact ⟨_, rfl, rfl, H1.below⟩
          · refine EL_yes rfl rfl ?_
            refine EL_p (Pu_mv rfl) rfl ?_
            refine EL_yes rfl rfl ?_
            refine EL_p (Pu_len rfl sl24 rfl) rfl ?_
            refine EL_yes rfl rfl ?_
            refine EL_p (Pu_gtr rfl rfl) rfl ?_
            refine EL_p (Pu_pf rfl rfl) rfl ?_
            refine EL_p (Pu_mv rfl) rfl ?_
            refine EL_gP rfl rfl (fun g84 => ?_) (fun g84 => ?_)
            · refine EL_no rfl rfl rfl rfl ?_
              refine EL_no rfl rfl rfl rfl ?_
              refine EL_no rfl rfl rfl rfl ?_
              refine EL_p (Pu_pt rfl rfl) rfl ?_
              refine EL_p (Pu_mv rfl) rfl ?_
              refine EL_no rfl rfl rfl rfl ?_
              refine EL_no rfl rfl rfl rfl ?_
              refine EL_no rfl rfl rfl rfl ?_
              refine EL_p (Pu_pt rfl rfl) rfl ?_
              refine EL_nil ?_
              refine CE_cond_t rfl ?_
              refine CE_seq ?_
              refine CE_reg ?_
              refine EL_p (Pu_as rfl) rfl ?_
              refine EL_nil ?_
              refine CE_ret ?_
              exact ⟨_, rfl, rfl, H1.below⟩
            · refine EL_yes rfl rfl ?_
              refine EL_p (Pu_mv rfl) rfl ?_
              refine EL_yes rfl rfl ?_
              refine EL_p (Pu_len rfl sl25 rfl) rfl ?_
              refine EL_yes rfl rfl ?_
              refine EL_p (Pu_gtr rfl rfl) rfl ?_
              refine EL_p (Pu_pf rfl rfl) rfl ?_
              refine EL_p (Pu_mv rfl) rfl ?_
              refine EL_gP rfl rfl (fun g89 => ?_) (fun g89 => ?_)
              · refine EL_no rfl rfl rfl rfl ?_
                refine EL_no rfl rfl rfl rfl ?_
                refine EL_no rfl rfl rfl rfl ?_
                refine EL_p (Pu_pt rfl rfl) rfl ?_
                refine EL_nil ?_
                refine CE_cond_t rfl ?_
                refine CE_seq ?_
                refine CE_reg ?_
                refine EL_p (Pu_as rfl) rfl ?_
                refine EL_nil ?_
                refine CE_ret ?_
                exact ⟨_, rfl, rfl, H1.below⟩
              · refine EL_yes rfl rfl ?_
                refine EL_p (Pu_mv rfl) rfl ?_
                refine EL_yes rfl rfl ?_
                refine EL_p (Pu_len rfl sl23 rfl) rfl ?_
                refine EL_yes rfl rfl ?_
                refine EL_p (Pu_gtr rfl rfl) rfl ?_
                refine EL_p (Pu_pf rfl rfl) rfl ?_
                refine EL_nil ?_
                refine CE_cP rfl (fun c93 => ?_) (fun c93 => ?_)
                · refine CE_seq ?_
                  refine CE_reg ?_
                  refine EL_p (Pu_as rfl) rfl ?_
                  refine EL_nil ?_
                  refine CE_ret ?_
                  exact ⟨_, rfl, rfl, H1.below⟩
                · refine CE_skip ?_
                  refine CE_seq ?_
                  refine CE_seq ?_
                  refine CE_reg ?_
                  refine EL_p (Pu_mv rfl) rfl ?_
                  refine EL_p (Pu_lss rfl rfl) rfl ?_
                  refine EL_p (Pu_mv rfl) rfl ?_
                  refine EL_gP rfl rfl (fun g96 => ?_) (fun g96 => ?_)
                  · refine EL_no rfl rfl rfl rfl ?_
                    refine EL_no rfl rfl rfl rfl ?_
                    refine EL_p (Pu_pt rfl rfl) rfl ?_
                    refine EL_nil ?_
                    refine CE_cond_t rfl ?_
                    refine CE_seq ?_
                    refine CE_reg ?_
                    refine EL_p (Pu_as rfl) rfl ?_
                    refine EL_nil ?_
                    refine CE_ret ?_
                    exact ⟨_, rfl, rfl, H1.below⟩
                  · refine EL_yes rfl rfl ?_
                    refine EL_p (Pu_mv rfl) rfl ?_
                    refine EL_yes rfl rfl ?_
                    refine EL_p (Pu_gtr rfl rfl) rfl ?_
                    refine EL_p (Pu_pf rfl rfl) rfl ?_
                    refine EL_nil ?_
                    refine CE_cP rfl (fun c99 => ?_) (fun c99 => ?_)
                    · refine CE_seq ?_
                      refine CE_reg ?_
                      refine EL_p (Pu_as rfl) rfl ?_
                      refine EL_nil ?_
                      refine CE_ret ?_
                      exact ⟨_, rfl, rfl, H1.below⟩
                    · obtain ⟨m, rfl⟩ : ∃ k : Nat, m = k := ⟨m.toNat, by omega⟩
                      refine CE_skip ?_
                      refine CE_seq ?_
                      refine CE_seq ?_
                      refine CE_reg ?_
                      refine EL_p (Pu_mv rfl) rfl ?_
                      refine EL_p (Pu_mv rfl) rfl ?_
                      refine EL_p (Pu_mv rfl) rfl ?_
                      refine EL_p (Pu_mv rfl) rfl ?_
                      refine EL_p (Pu_mv rfl) rfl ?_
                      refine EL_p (Pu_mv rfl) rfl ?_
                      refine EL_L rfl (Lo_call ca10 rfl ((shape10 H1 s0 s2 s3 hT hI (by omega)).mono (fun y w2 hh => ?_)))
                      obtain ⟨b10, hy, hsh, H2⟩ := hh
                      refine ⟨_, hy, ?_⟩
                      refine EL_p (Pu_not rfl) rfl ?_
                      refine EL_nil ?_
                      refine CE_cB rfl (fun c107 => ?_) (fun c107 => ?_)
                      · refine CE_seq ?_
                        refine CE_reg ?_
                        refine EL_p (Pu_as rfl) rfl ?_
                        refine EL_nil ?_
                        refine CE_ret ?_
                        exact ⟨_, rfl, rfl, H2.below⟩
                      · obtain ⟨e2, e3, e5, m0, ok⟩ := hsh c107
                        subst e2 e3 e5
                        have hTr : ∀ i, i < l3 → 0 ≤ T i ∧ T i < l5 := fun i hi => ⟨(ok i hi).1, (ok i hi).2.1⟩
                        refine CE_skip ?_
                        refine CE_seq ?_
                        refine CE_reg ?_
                        refine EL_p (Pu_mv rfl) rfl ?_
                        refine EL_L rfl (Lo_call ca12 rfl ((clone12 H2 s0 (by omega)).mono (fun y w4 hh => ?_)))
                        obtain ⟨z0, b0, hy, H4⟩ := hh
                        refine ⟨_, hy, ?_⟩
                        refine EL_p (Pu_as rfl) rfl ?_
                        refine EL_nil ?_
                        refine CE_seq ?_
                        refine CE_reg ?_
                        refine EL_p (Pu_mv rfl) rfl ?_
                        refine EL_L rfl (Lo_call ca13 rfl ((clone13 H4 s1 (by omega)).mono (fun y w5 hh => ?_)))
                        obtain ⟨z1, b1, hy, H5⟩ := hh
                        refine ⟨_, hy, ?_⟩
                        refine EL_p (Pu_as rfl) rfl ?_
                        refine EL_nil ?_
                        refine CE_seq ?_
                        refine CE_reg ?_
                        refine EL_p (Pu_mv rfl) rfl ?_
                        refine EL_L rfl (Lo_call ca14 rfl ((clone14 H5 s2 (by omega)).mono (fun y w6 hh => ?_)))
                        obtain ⟨z2, b2, hy, H6⟩ := hh
                        refine ⟨_, hy, ?_⟩
                        refine EL_p (Pu_as rfl) rfl ?_
                        refine EL_nil ?_
                        refine CE_seq ?_
                        refine CE_reg ?_
                        refine EL_p (Pu_mv rfl) rfl ?_
                        refine EL_L rfl (Lo_call ca14 rfl ((clone14 H6 s3 (by omega)).mono (fun y w7 hh => ?_)))
                        obtain ⟨z3, b3, hy, H7⟩ := hh
                        refine ⟨_, hy, ?_⟩
                        refine EL_p (Pu_as rfl) rfl ?_
                        refine EL_nil ?_
                        refine CE_seq ?_
                        refine CE_reg ?_
                        refine EL_p (Pu_mv rfl) rfl ?_
                        refine EL_L rfl (Lo_call ca15 rfl ((clone15 H7 s5 (by omega)).mono (fun y w8 hh => ?_)))
                        obtain ⟨z5, b5, hy, H8⟩ := hh
                        refine ⟨_, hy, ?_⟩
                        refine EL_p (Pu_as rfl) rfl ?_
                        refine EL_nil ?_
                        refine CE_seq ?_
                        refine CE_reg ?_
                        refine EL_p (Pu_mv rfl) rfl ?_
                        refine EL_L rfl (Lo_call ca13 rfl ((clone13 H8 s6 (by omega)).mono (fun y w9 hh => ?_)))
                        obtain ⟨z6, b6, hy, H9⟩ := hh
                        refine ⟨_, hy, ?_⟩
                        refine EL_p (Pu_as rfl) rfl ?_
                        refine EL_nil ?_
                        refine CE_seq ?_
                        refine CE_reg ?_
                        refine EL_p (Pu_mv rfl) rfl ?_
                        refine EL_p (Pu_mv rfl) rfl ?_
                        refine EL_p (Pu_mv rfl) rfl ?_
                        refine EL_p (Pu_mv rfl) rfl ?_
                        refine EL_p (Pu_mv rfl) rfl ?_
                        refine EL_p (Pu_mv rfl) rfl ?_
                        refine EL_p (Pu_mv rfl) rfl ?_
                        refine EL_L rfl (Lo_call ca16 rfl ((indexed16 H9 (List.mem_of_getElem? (i := 5) rfl) (by omega) rfl rfl rfl rfl rfl).mono (fun y w10 hh => ?_)))
                        obtain ⟨hb', ob, hy, H10⟩ := hh
                        refine ⟨_, hy, ?_⟩
                        obtain ⟨L, H11, hin, hact⟩ := H10.hist6 (fun p hp => (hTr p hp).1)
                        have hok := mkH_ok (hb := hb') (ob := ob) (z1 := z1) (b1 := b1) (z2 := z2) (b2 := b2) (z3 := z3) (b3 := b3) (z5 := z5) (b5 := b5) (ev := aval z6 b6 l6) (X := X) (B := B) (show l3 ≤ 4096 by omega) (show l5 ≤ 4096 by omega) (show m ≤ 65536 by omega) ok
                        refine EL_p (Pu_as rfl) rfl ?_
                        refine EL_nil ?_
                        refine CE_midG (fun (s : GS3) => [(0, aval s.B.z0 s.B.b0 s.h.n), (2, aval s.h.zt s.h.bt s.h.n), (3, aval s.h.zi s.h.bi s.h.n), (5, aval s.h.za s.h.ba s.h.nt), (16, .pointer (some ⟨s.B.gb, 0, none⟩)), (1, aval s.h.zx s.h.bx s.h.nt)]) (fun s w' => ∃ M, HP w w' M ∧ GM s.h s.G s.B M ∧ GInv s.h s.G ∧ HOK s.h) ?_ (fun s w11 hmid => ?_)
                        · refine CE_reg ?_
                          refine EL_p (Pu_mv rfl) rfl ?_
                          refine EL_L rfl (Lo_call ca23 rfl ((newGraph23 H11 hin hok).mono (fun y w12 hh => ?_)))
                          obtain ⟨gb, ab, wb, tb, ub, G, hy, hg, H12⟩ := hh
                          refine ⟨_, hy, ?_⟩
                          refine EL_p (Pu_as rfl) rfl ?_
                          refine EL_nil ?_
                          exact ⟨⟨_, G, ⟨gb, ab, wb, tb, ub, z0, b0⟩⟩, ⟨_, H12, GM.ofGL hin hact, hg, hok⟩, rfl, rfl, rfl, rfl, rfl, rfl, trivial⟩
                        obtain ⟨M, HM, gm, gi, ho⟩ := hmid
                        have hon := ho.hn
                        have hont := ho.hnt
                        have hnn : s.h.nt * s.h.nt ≤ 16777216 := Nat.mul_le_mul hont hont
                        have hnnI : ((s.h.nt : Int) * (s.h.nt : Int)) = ((s.h.nt * s.h.nt : Nat) : Int) := (Int.natCast_mul _ _).symm
                        refine CE_seq ?_
                        refine CE_reg ?_
                        refine EL_p (Pu_mv rfl) rfl ?_
                        refine EL_p (Pu_len rfl sl22 rfl) rfl ?_
                        refine EL_p (Pu_as rfl) rfl ?_
                        refine EL_nil ?_
                        refine CE_seq ?_
                        refine CE_reg ?_
                        refine EL_p (Pu_mv rfl) rfl ?_
                        refine EL_p (Pu_len rfl sl23 rfl) rfl ?_
                        refine EL_p (Pu_as rfl) rfl ?_
                        refine EL_nil ?_
                        refine CE_seq ?_
                        refine CE_reg ?_
                        refine EL_p (Pu_mv rfl) rfl ?_
                        refine EL_p (Pu_mv rfl) rfl ?_
                        refine EL_p (Pu_mul rfl rfl (w64 (by rw [hnnI]; omega))) rfl ?_
                        refine EL_L rfl (Lo_make1 (c := s.h.nt * s.h.nt) HM rfl rfl hnnI Try.underlying25 ze4 rfl (by omega) (by omega) (fun cb w12 H12 => ?_))
                        refine EL_p (Pu_as rfl) rfl ?_
                        refine EL_nil ?_
                        refine CE_seq ?_
                        refine CE_seq ?_
                        refine CE_reg ?_
                        refine EL_p (Pu_as rfl) rfl ?_
                        refine EL_nil ?_
                        refine CE_block ?_
                        refine CE_loop (fun (p : Nat) w' => p ≤ s.h.n ∧ ∃ cf : Nat → Bool, (∀ a b, a < s.h.nt → b < s.h.nt → (cf (a * s.h.nt + b) = true ↔ ConfK s.h p 0 a b)) ∧ HP w w' ((Blk cb (s.h.nt * s.h.nt) (fun i => .bool (cf i))) :: M)) (fun p => [(0, aval s.B.z0 s.B.b0 s.h.n), (2, aval s.h.zt s.h.bt s.h.n), (3, aval s.h.zi s.h.bi s.h.n), (5, aval s.h.za s.h.ba s.h.nt), (16, .pointer (some ⟨s.B.gb, 0, none⟩)), (17, .int .i64 s.h.n), (18, .int .i64 s.h.nt), (19, .slice (some ⟨cb, 0, none⟩) (s.h.nt * s.h.nt) (s.h.nt * s.h.nt)), (20, .int .i64 p)]) (fun p => s.h.n - p) 0 ⟨Nat.zero_le _, fun _ => false, fun a b _ _ => ⟨fun hh => Bool.noConfusion hh, fun hh => absurd hh (ConfK.zero _ _ _)⟩, H12⟩ ⟨rfl, rfl, rfl, rfl, rfl, rfl, rfl, rfl, rfl, trivial⟩ ?_
                        rintro p w13 ⟨hp, cf, hcf, H13⟩
                        have gm1 := gm.cons (Blk cb (s.h.nt * s.h.nt) (fun i => .bool (cf i)))
                        refine CE_seq ?_
                        refine CE_seq ?_
                        refine CE_reg ?_
                        refine EL_p (Pu_mv rfl) rfl ?_
                        refine EL_p (Pu_mv rfl) rfl ?_
                        refine EL_p (Pu_lss rfl rfl) rfl ?_
                        refine EL_nil ?_
                        refine CE_cP rfl (fun c140 => ?_) (fun c140 => ?_)
                        · have hlt : p < s.h.n := by omega
                          have hTp := (ho.ok p hlt).1
                          refine CE_skip ?_
                          refine CE_seq ?_
                          refine CE_block ?_
                          refine CE_seq ?_
                          refine CE_reg ?_
                          refine EL_p (Pu_mv rfl) rfl ?_
                          refine EL_p (Pu_mv rfl) rfl ?_
                          refine EL_p (Pu_ixA rfl rfl sl24 rfl hlt (H13.anzM gm1.inl.mi hlt)) rfl ?_
                          refine EL_ld rfl fl21 (H13.acellM gm1.inl.mi hlt) rfl ?_
                          refine EL_p (Pu_as rfl) rfl ?_
                          refine EL_nil ?_
                          refine CE_seq ?_
                          refine CE_seq ?_
                          refine CE_reg ?_
                          refine EL_p (Pu_mv rfl) rfl ?_
                          refine EL_p (Pu_lss rfl rfl) rfl ?_
                          refine EL_p (Pu_mv rfl) rfl ?_
                          refine EL_gP rfl rfl (fun g149 => ?_) (fun g149 => ?_)
                          · refine EL_no rfl rfl rfl rfl ?_
                            refine EL_no rfl rfl rfl rfl ?_
                            refine EL_no rfl rfl rfl rfl ?_
                            refine EL_no rfl rfl rfl rfl ?_
                            refine EL_no rfl rfl rfl rfl ?_
                            refine EL_no rfl rfl rfl rfl ?_
                            refine EL_no rfl rfl rfl rfl ?_
                            refine EL_p (Pu_pt rfl rfl) rfl ?_
                            refine EL_nil ?_
                            refine CE_cond_t rfl ?_
                            refine CE_exit ?_
                            refine CE_reg ?_
                            refine EL_p (Pu_mv rfl) rfl ?_
                            refine EL_p (Pu_add rfl rfl (w64 (by omega))) rfl ?_
                            refine EL_p (Pu_as rfl) rfl ?_
                            refine EL_nil ?_
                            exact ⟨p + 1, by omega, ⟨rfl, rfl, rfl, rfl, rfl, rfl, rfl, rfl, rfl, trivial⟩, hlt, cf, fun a b ha hb => (hcf a b ha hb).trans (ConfK.skip _ _ _ _ (lvB_neg g149)), H13⟩
                          · refine EL_yes rfl rfl ?_
                            refine EL_p (Pu_mv rfl) rfl ?_
                            refine EL_yes rfl rfl ?_
                            refine EL_p (Pu_mv rfl) rfl ?_
                            refine EL_yes rfl rfl ?_
                            refine EL_p (Pu_mv rfl) rfl ?_
                            refine EL_yes rfl rfl ?_
                            first | (refine EL_p (Pu_ixA rfl rfl sl24 rfl hlt (H13.anzM gm1.inl.mt hlt)) rfl ?_) | (refine EL_p (Pu_ixA rfl rfl sl24 rfl hTp (H13.anzM gm1.inl.ma hTp)) rfl ?_)
                            refine EL_yes rfl rfl ?_
                            first | (refine EL_ld rfl fl21 (H13.acellM gm1.inl.mt hlt) rfl ?_) | (refine EL_ld rfl fl21 (H13.acellM gm1.inl.ma hTp) rfl ?_)
                            refine EL_yes rfl rfl ?_
                            first | (refine EL_p (Pu_ixA rfl rfl sl25 rfl hlt (H13.anzM gm1.inl.mt hlt)) rfl ?_) | (refine EL_p (Pu_ixA rfl rfl sl25 rfl hTp (H13.anzM gm1.inl.ma hTp)) rfl ?_)
                            refine EL_yes rfl rfl ?_
                            first | (refine EL_ld rfl fl4 (H13.acellM gm1.inl.mt hlt) rfl ?_) | (refine EL_ld rfl fl4 (H13.acellM gm1.inl.ma hTp) rfl ?_)
                            refine EL_p (Pu_pf rfl rfl) rfl ?_
                            refine EL_nil ?_
                            refine CE_cond rfl (fun c157 => ?_) (fun c157 => ?_)
                            · refine CE_exit ?_
                              refine CE_reg ?_
                              refine EL_p (Pu_mv rfl) rfl ?_
                              refine EL_p (Pu_add rfl rfl (w64 (by omega))) rfl ?_
                              refine EL_p (Pu_as rfl) rfl ?_
                              refine EL_nil ?_
                              exact ⟨p + 1, by omega, ⟨rfl, rfl, rfl, rfl, rfl, rfl, rfl, rfl, rfl, trivial⟩, hlt, cf, fun a b ha hb => (hcf a b ha hb).trans (ConfK.skip _ _ _ _ (lvB_ab c157)), H13⟩
                            · have hl := lvB_yes (by omega) c157
                              refine CE_skip ?_
                              refine CE_seq ?_
                              refine CE_reg ?_
                              refine EL_p (Pu_as rfl) rfl ?_
                              refine EL_nil ?_
                              refine CE_block ?_
                              refine CE_loop (fun (k : Nat) w' => k ≤ p ∧ ∃ cf : Nat → Bool, (∀ a b, a < s.h.nt → b < s.h.nt → (cf (a * s.h.nt + b) = true ↔ ConfK s.h p k a b)) ∧ HP w w' ((Blk cb (s.h.nt * s.h.nt) (fun i => .bool (cf i))) :: M)) (fun k => [(0, aval s.B.z0 s.B.b0 s.h.n), (2, aval s.h.zt s.h.bt s.h.n), (3, aval s.h.zi s.h.bi s.h.n), (5, aval s.h.za s.h.ba s.h.nt), (16, .pointer (some ⟨s.B.gb, 0, none⟩)), (17, .int .i64 s.h.n), (18, .int .i64 s.h.nt), (19, .slice (some ⟨cb, 0, none⟩) (s.h.nt * s.h.nt) (s.h.nt * s.h.nt)), (20, .int .i64 p), (21, .int .i32 (s.h.I p)), (22, .int .i64 k)]) (fun k => p - k) 0 ⟨Nat.zero_le _, cf, hcf, H13⟩ ⟨rfl, rfl, rfl, rfl, rfl, rfl, rfl, rfl, rfl, rfl, rfl, trivial⟩ ?_
                              rintro k w14 ⟨hk, cf, hcf, H14⟩
                              have gm2 := gm.cons (Blk cb (s.h.nt * s.h.nt) (fun i => .bool (cf i)))
                              refine CE_seq ?_
                              refine CE_seq ?_
                              refine CE_reg ?_
                              refine EL_p (Pu_mv rfl) rfl ?_
                              refine EL_p (Pu_mv rfl) rfl ?_
                              refine EL_p (Pu_lss rfl rfl) rfl ?_
                              refine EL_nil ?_
                              refine CE_cP rfl (fun c160 => ?_) (fun c160 => ?_)
                              · have hkl : k < p := by omega
                                have hkn : k < s.h.n := by omega
                                have hTk := (ho.ok k hkn).1
                                have hmul : s.h.T k * s.h.nt ≤ 16777216 := Nat.mul_le_mul (show s.h.T k ≤ 4096 by omega) hont
                                have hmulI : ((s.h.T k : Int) * (s.h.nt : Int)) = ((s.h.T k * s.h.nt : Nat) : Int) := (Int.natCast_mul _ _).symm
                                refine CE_skip ?_
                                refine CE_seq ?_
                                refine CE_block ?_
                                refine CE_seq ?_
                                refine CE_seq ?_
                                refine CE_drawH H14 (fun w' => HP w w' ((Blk cb (s.h.nt * s.h.nt) (fun i => .bool (cf i))) :: M)) [(0, 0), (1, 0), (2, 0), (3, 0), (4, 0), (5, 0), (6, 0), (7, 0), (8, 0), (9, 0), (10, 0), (11, 0), (12, 0), (13, 0), (14, 0), (15, 0), (16, 0), (17, 0), (18, 0), (19, 0), (20, 0), (21, 0), (22, 0), (23, 0), (24, 0), (25, 0)] mixed rfl (by kernel_rfl) (fun w15 H15 => ?_)
                                refine AO_p rfl H15 (Pu.toIf (Pu_mv rfl)) rfl ?_
                                refine AO_p rfl H15 (Pu.toIf (Pu_mv rfl)) rfl ?_
                                first | (refine AO_p rfl H15 (Pu.toIf (Pu_ixA rfl rfl sl24 rfl hkn (H15.anzM gm2.inl.mi hkn))) rfl ?_) | (refine AO_p rfl H15 (Pu.toIf (Pu_ixA rfl rfl sl24 rfl hkn (H15.anzM gm2.inl.mt hkn))) rfl ?_) | (refine AO_p rfl H15 (Pu.toIf (Pu_ixA rfl rfl sl24 rfl hTk (H15.anzM gm2.inl.ma hTk))) rfl ?_) | (refine AO_p rfl H15 (Pu.toIf (Pu_ixA rfl rfl sl24 rfl hlt (H15.anzM gm2.inl.mt hlt))) rfl ?_)
                                first | (refine AO_p rfl H15 (Ld rfl fl21 (fun w h => h.acellM gm2.inl.mi hkn)) rfl ?_) | (refine AO_p rfl H15 (Ld rfl fl21 (fun w h => h.acellM gm2.inl.mt hkn)) rfl ?_) | (refine AO_p rfl H15 (Ld rfl fl21 (fun w h => h.acellM gm2.inl.ma hTk)) rfl ?_) | (refine AO_p rfl H15 (Ld rfl fl21 (fun w h => h.acellM gm2.inl.mt hlt)) rfl ?_)
                                refine AO_p rfl H15 (Pu.toIf (Pu_mv rfl)) rfl ?_
                                refine AO_p rfl H15 (Pu.toIf (Pu_neq rfl rfl)) rfl ?_
                                refine AO_p rfl H15 (Pu.toIf (Pu_mv rfl)) rfl ?_
                                refine AO_gN rfl rfl rfl (fun g169 => ?_) (fun g169 => ?_)
                                · refine AO_no rfl rfl rfl rfl H15 rfl ?_
                                  refine AO_no rfl rfl rfl rfl H15 rfl ?_
                                  refine AO_no rfl rfl rfl rfl H15 rfl ?_
                                  refine AO_no rfl rfl rfl rfl H15 rfl ?_
                                  refine AO_no rfl rfl rfl rfl H15 rfl ?_
                                  refine AO_no rfl rfl rfl rfl H15 rfl ?_
                                  refine AO_no rfl rfl rfl rfl H15 rfl ?_
                                  refine AO_p rfl H15 (Pu.toIf (Pu_pt rfl rfl)) rfl ?_
                                  refine AO_p rfl H15 (Pu.toIf (Pu_mv rfl)) rfl ?_
                                  refine AO_no rfl rfl rfl rfl H15 rfl ?_
                                  refine AO_no rfl rfl rfl rfl H15 rfl ?_
                                  refine AO_no rfl rfl rfl rfl H15 rfl ?_
                                  refine AO_no rfl rfl rfl rfl H15 rfl ?_
                                  refine AO_no rfl rfl rfl rfl H15 rfl ?_
                                  refine AO_no rfl rfl rfl rfl H15 rfl ?_
                                  refine AO_no rfl rfl rfl rfl H15 rfl ?_
                                  refine AO_no rfl rfl rfl rfl H15 rfl ?_
                                  refine AO_no rfl rfl rfl rfl H15 rfl ?_
                                  refine AO_p rfl H15 (Pu.toIf (Pu_pt rfl rfl)) rfl ?_
                                  refine AO_nil ?_
                                  refine CE_cond_t rfl ?_
                                  refine CE_exit ?_
                                  refine CE_reg ?_
                                  refine EL_p (Pu_mv rfl) rfl ?_
                                  refine EL_p (Pu_add rfl rfl (w64 (by omega))) rfl ?_
                                  refine EL_p (Pu_as rfl) rfl ?_
                                  refine EL_nil ?_
                                  exact ⟨k + 1, by omega, ⟨rfl, rfl, rfl, rfl, rfl, rfl, rfl, rfl, rfl, rfl, rfl, trivial⟩, hkl, cf, conf_same hcf (fun a b hh => g169 hh.it), H15⟩
                                · refine AO_yes rfl rfl rfl H15 (Pu.toIf (Pu_mv rfl)) rfl ?_
                                  refine AO_yes rfl rfl rfl H15 (Pu.toIf (Pu_mv rfl)) rfl ?_
                                  refine AO_yes rfl rfl rfl H15 (Pu.toIf (Pu_mv rfl)) rfl ?_
                                  first | (refine AO_yes rfl rfl rfl H15 (Pu.toIf (Pu_ixA rfl rfl sl24 rfl hkn (H15.anzM gm2.inl.mi hkn))) rfl ?_) | (refine AO_yes rfl rfl rfl H15 (Pu.toIf (Pu_ixA rfl rfl sl24 rfl hkn (H15.anzM gm2.inl.mt hkn))) rfl ?_) | (refine AO_yes rfl rfl rfl H15 (Pu.toIf (Pu_ixA rfl rfl sl24 rfl hTk (H15.anzM gm2.inl.ma hTk))) rfl ?_) | (refine AO_yes rfl rfl rfl H15 (Pu.toIf (Pu_ixA rfl rfl sl24 rfl hlt (H15.anzM gm2.inl.mt hlt))) rfl ?_)
                                  first | (refine AO_yes rfl rfl rfl H15 (Ld rfl fl21 (fun w h => h.acellM gm2.inl.mi hkn)) rfl ?_) | (refine AO_yes rfl rfl rfl H15 (Ld rfl fl21 (fun w h => h.acellM gm2.inl.mt hkn)) rfl ?_) | (refine AO_yes rfl rfl rfl H15 (Ld rfl fl21 (fun w h => h.acellM gm2.inl.ma hTk)) rfl ?_) | (refine AO_yes rfl rfl rfl H15 (Ld rfl fl21 (fun w h => h.acellM gm2.inl.mt hlt)) rfl ?_)
                                  first | (refine AO_yes rfl rfl rfl H15 (Pu.toIf (Pu_ixA rfl rfl sl25 rfl hkn (H15.anzM gm2.inl.mi hkn))) rfl ?_) | (refine AO_yes rfl rfl rfl H15 (Pu.toIf (Pu_ixA rfl rfl sl25 rfl hkn (H15.anzM gm2.inl.mt hkn))) rfl ?_) | (refine AO_yes rfl rfl rfl H15 (Pu.toIf (Pu_ixA rfl rfl sl25 rfl hTk (H15.anzM gm2.inl.ma hTk))) rfl ?_) | (refine AO_yes rfl rfl rfl H15 (Pu.toIf (Pu_ixA rfl rfl sl25 rfl hlt (H15.anzM gm2.inl.mt hlt))) rfl ?_)
                                  first | (refine AO_yes rfl rfl rfl H15 (Ld rfl fl4 (fun w h => h.acellM gm2.inl.mi hkn)) rfl ?_) | (refine AO_yes rfl rfl rfl H15 (Ld rfl fl4 (fun w h => h.acellM gm2.inl.mt hkn)) rfl ?_) | (refine AO_yes rfl rfl rfl H15 (Ld rfl fl4 (fun w h => h.acellM gm2.inl.ma hTk)) rfl ?_) | (refine AO_yes rfl rfl rfl H15 (Ld rfl fl4 (fun w h => h.acellM gm2.inl.mt hlt)) rfl ?_)
                                  refine AO_p rfl H15 (Pu.toIf (Pu_pf rfl rfl)) rfl ?_
                                  refine AO_p rfl H15 (Pu.toIf (Pu_mv rfl)) rfl ?_
                                  refine AO_gB rfl rfl rfl (fun g178 => ?_) (fun g178 => ?_)
                                  · refine AO_no rfl rfl rfl rfl H15 rfl ?_
                                    refine AO_no rfl rfl rfl rfl H15 rfl ?_
                                    refine AO_no rfl rfl rfl rfl H15 rfl ?_
                                    refine AO_no rfl rfl rfl rfl H15 rfl ?_
                                    refine AO_no rfl rfl rfl rfl H15 rfl ?_
                                    refine AO_no rfl rfl rfl rfl H15 rfl ?_
                                    refine AO_no rfl rfl rfl rfl H15 rfl ?_
                                    refine AO_no rfl rfl rfl rfl H15 rfl ?_
                                    refine AO_no rfl rfl rfl rfl H15 rfl ?_
                                    refine AO_p rfl H15 (Pu.toIf (Pu_pt rfl rfl)) rfl ?_
                                    refine AO_nil ?_
                                    refine CE_cond_t rfl ?_
                                    refine CE_exit ?_
                                    refine CE_reg ?_
                                    refine EL_p (Pu_mv rfl) rfl ?_
                                    refine EL_p (Pu_add rfl rfl (w64 (by omega))) rfl ?_
                                    refine EL_p (Pu_as rfl) rfl ?_
                                    refine EL_nil ?_
                                    exact ⟨k + 1, by omega, ⟨rfl, rfl, rfl, rfl, rfl, rfl, rfl, rfl, rfl, rfl, rfl, trivial⟩, hkl, cf, conf_same hcf (fun a b hh => by have := lvB_B hh.lq; rw [g178] at this; cases this), H15⟩
                                  · refine AO_yes rfl rfl rfl H15 (Pu.toIf (Pu_mv rfl)) rfl ?_
                                    refine AO_yes rfl rfl rfl H15 (Pu.toIf (Pu_mv rfl)) rfl ?_
                                    first | (refine AO_yes rfl rfl rfl H15 (Pu.toIf (Pu_ixA rfl rfl sl24 rfl hkn (H15.anzM gm2.inl.mi hkn))) rfl ?_) | (refine AO_yes rfl rfl rfl H15 (Pu.toIf (Pu_ixA rfl rfl sl24 rfl hkn (H15.anzM gm2.inl.mt hkn))) rfl ?_) | (refine AO_yes rfl rfl rfl H15 (Pu.toIf (Pu_ixA rfl rfl sl24 rfl hTk (H15.anzM gm2.inl.ma hTk))) rfl ?_) | (refine AO_yes rfl rfl rfl H15 (Pu.toIf (Pu_ixA rfl rfl sl24 rfl hlt (H15.anzM gm2.inl.mt hlt))) rfl ?_)
                                    first | (refine AO_yes rfl rfl rfl H15 (Ld rfl fl21 (fun w h => h.acellM gm2.inl.mi hkn)) rfl ?_) | (refine AO_yes rfl rfl rfl H15 (Ld rfl fl21 (fun w h => h.acellM gm2.inl.mt hkn)) rfl ?_) | (refine AO_yes rfl rfl rfl H15 (Ld rfl fl21 (fun w h => h.acellM gm2.inl.ma hTk)) rfl ?_) | (refine AO_yes rfl rfl rfl H15 (Ld rfl fl21 (fun w h => h.acellM gm2.inl.mt hlt)) rfl ?_)
                                    refine AO_yes rfl rfl rfl H15 (Pu.toIf (Pu_mv rfl)) rfl ?_
                                    refine AO_yes rfl rfl rfl H15 (Pu.toIf (Pu_mv rfl)) rfl ?_
                                    first | (refine AO_yes rfl rfl rfl H15 (Pu.toIf (Pu_ixA rfl rfl sl24 rfl hkn (H15.anzM gm2.inl.mi hkn))) rfl ?_) | (refine AO_yes rfl rfl rfl H15 (Pu.toIf (Pu_ixA rfl rfl sl24 rfl hkn (H15.anzM gm2.inl.mt hkn))) rfl ?_) | (refine AO_yes rfl rfl rfl H15 (Pu.toIf (Pu_ixA rfl rfl sl24 rfl hTk (H15.anzM gm2.inl.ma hTk))) rfl ?_) | (refine AO_yes rfl rfl rfl H15 (Pu.toIf (Pu_ixA rfl rfl sl24 rfl hlt (H15.anzM gm2.inl.mt hlt))) rfl ?_)
                                    first | (refine AO_yes rfl rfl rfl H15 (Ld rfl fl21 (fun w h => h.acellM gm2.inl.mi hkn)) rfl ?_) | (refine AO_yes rfl rfl rfl H15 (Ld rfl fl21 (fun w h => h.acellM gm2.inl.mt hkn)) rfl ?_) | (refine AO_yes rfl rfl rfl H15 (Ld rfl fl21 (fun w h => h.acellM gm2.inl.ma hTk)) rfl ?_) | (refine AO_yes rfl rfl rfl H15 (Ld rfl fl21 (fun w h => h.acellM gm2.inl.mt hlt)) rfl ?_)
                                    refine AO_yes rfl rfl rfl H15 (Pu.toIf (Pu_eql rfl rfl)) rfl ?_
                                    refine AO_p rfl H15 (Pu.toIf (Pu_pf rfl rfl)) rfl ?_
                                    refine AO_nil ?_
                                    refine CE_cP rfl (fun c188 => ?_) (fun c188 => ?_)
                                    · refine CE_exit ?_
                                      refine CE_reg ?_
                                      refine EL_p (Pu_mv rfl) rfl ?_
                                      refine EL_p (Pu_add rfl rfl (w64 (by omega))) rfl ?_
                                      refine EL_p (Pu_as rfl) rfl ?_
                                      refine EL_nil ?_
                                      exact ⟨k + 1, by omega, ⟨rfl, rfl, rfl, rfl, rfl, rfl, rfl, rfl, rfl, rfl, rfl, trivial⟩, hkl, cf, conf_same hcf (fun a b hh => hh.ne (by have h1 := hh.tq; have h2 := hh.tp; omega)), H15⟩
                                    · have hkl' : lvB s.h k = true := lvB_yes (by have := lvB_I hl; omega) g178
                                      refine CE_skip ?_
                                      refine CE_seq ?_
                                      refine CE_reg ?_
                                      refine EL_p (Pu_mv rfl) rfl ?_
                                      refine EL_p (Pu_mv rfl) rfl ?_
                                      first | (refine EL_p (Pu_ixA rfl rfl sl22 rfl hkn (H15.anzM gm2.act hkn)) rfl ?_) | (refine EL_p (Pu_ixA rfl rfl sl22 rfl hlt (H15.anzM gm2.act hlt)) rfl ?_)
                                      first | (refine EL_ld rfl fl5 (H15.acellM gm2.act hkn) rfl ?_) | (refine EL_ld rfl fl5 (H15.acellM gm2.act hlt) rfl ?_)
                                      refine EL_p (Pu_eql rfl rfl) rfl ?_
                                      refine EL_p (Pu_mv rfl) rfl ?_
                                      refine EL_gP rfl rfl (fun g194 => ?_) (fun g194 => ?_)
                                      · refine EL_no rfl rfl rfl rfl ?_
                                        refine EL_no rfl rfl rfl rfl ?_
                                        refine EL_no rfl rfl rfl rfl ?_
                                        refine EL_no rfl rfl rfl rfl ?_
                                        refine EL_no rfl rfl rfl rfl ?_
                                        refine EL_p (Pu_pt rfl rfl) rfl ?_
                                        refine EL_nil ?_
                                        refine CE_cond_t rfl ?_
                                        refine CE_drawH H15 (fun w' => HP w w' ((Blk cb (s.h.nt * s.h.nt) (fun i => .bool (cf i))) :: M)) [(0, 0), (1, 0), (2, 0), (3, 0), (4, 0), (5, 0), (6, 0), (7, 0), (8, 0), (9, 0), (10, 0), (11, 0), (12, 0), (13, 0), (14, 0), (15, 2)] mixed rfl (by kernel_rfl) (fun w16 H16 => ?_)
                                        refine AO_p rfl H16 (Pu.toIf (Pu_mv rfl)) rfl ?_
                                        refine AO_p rfl H16 (Pu.toIf (Pu_mv rfl)) rfl ?_
                                        refine AO_p rfl H16 (Pu.toIf (Pu_mv rfl)) rfl ?_
                                        first | (refine AO_p rfl H16 (Pu.toIf (Pu_ixA rfl rfl sl24 rfl hkn (H16.anzM gm2.inl.mt hkn))) rfl ?_) | (refine AO_p rfl H16 (Pu.toIf (Pu_ixA rfl rfl sl24 rfl hlt (H16.anzM gm2.inl.mt hlt))) rfl ?_) | (refine AO_p rfl H16 (Pu.toIf (Pu_ix (j := s.h.T k * s.h.nt + s.h.T p) rfl rfl sl24 (by rw [hmulI]; omega) (idx_lt hTk hTp))) rfl ?_)
                                        first | (refine AO_p rfl H16 (Ld rfl fl21 (fun w h => h.acellM gm2.inl.mt hkn)) rfl ?_) | (refine AO_p rfl H16 (Ld rfl fl21 (fun w h => h.acellM gm2.inl.mt hlt)) rfl ?_)
                                        refine AO_p rfl H16 (Pu.toIf (Pu_cnv rfl in21 in3 (w64 (by omega)))) rfl ?_
                                        refine AO_p rfl H16 (Pu.toIf (Pu_mv rfl)) rfl ?_
                                        refine AO_p rfl H16 (Pu.toIf (Pu_mul rfl rfl (w64 (by rw [hmulI]; omega)))) rfl ?_
                                        refine AO_p rfl H16 (Pu.toIf (Pu_mv rfl)) rfl ?_
                                        refine AO_p rfl H16 (Pu.toIf (Pu_mv rfl)) rfl ?_
                                        first | (refine AO_p rfl H16 (Pu.toIf (Pu_ixA rfl rfl sl24 rfl hkn (H16.anzM gm2.inl.mt hkn))) rfl ?_) | (refine AO_p rfl H16 (Pu.toIf (Pu_ixA rfl rfl sl24 rfl hlt (H16.anzM gm2.inl.mt hlt))) rfl ?_) | (refine AO_p rfl H16 (Pu.toIf (Pu_ix (j := s.h.T k * s.h.nt + s.h.T p) rfl rfl sl24 (by rw [hmulI]; omega) (idx_lt hTk hTp))) rfl ?_)
                                        first | (refine AO_p rfl H16 (Ld rfl fl21 (fun w h => h.acellM gm2.inl.mt hkn)) rfl ?_) | (refine AO_p rfl H16 (Ld rfl fl21 (fun w h => h.acellM gm2.inl.mt hlt)) rfl ?_)
                                        refine AO_p rfl H16 (Pu.toIf (Pu_cnv rfl in21 in3 (w64 (by omega)))) rfl ?_
                                        refine AO_p rfl H16 (Pu.toIf (Pu_add rfl rfl (w64 (by rw [hmulI]; omega)))) rfl ?_
                                        first | (refine AO_p rfl H16 (Pu.toIf (Pu_ixA rfl rfl sl25 rfl hkn (H16.anzM gm2.inl.mt hkn))) rfl ?_) | (refine AO_p rfl H16 (Pu.toIf (Pu_ixA rfl rfl sl25 rfl hlt (H16.anzM gm2.inl.mt hlt))) rfl ?_) | (refine AO_p rfl H16 (Pu.toIf (Pu_ix (j := s.h.T k * s.h.nt + s.h.T p) rfl rfl sl25 (by rw [hmulI]; omega) (idx_lt hTk hTp))) rfl ?_)
                                        refine AO_S0 rfl (Lo_st (j := 0) (i := s.h.T k * s.h.nt + s.h.T p) H16 rfl rfl rfl fl4 rfl (idx_lt hTk hTp) (fun w17 H17 => ?_))
                                        refine AO_nil ?_
                                        refine CE_reg ?_
                                        refine EL_p (Pu_mv rfl) rfl ?_
                                        refine EL_p (Pu_add rfl rfl (w64 (by omega))) rfl ?_
                                        refine EL_p (Pu_as rfl) rfl ?_
                                        refine EL_nil ?_
                                        have H18 := H17.congr (j := 0) rfl (fun i _ => setB cf _ _ i)
                                        exact ⟨k + 1, by omega, ⟨rfl, rfl, rfl, rfl, rfl, rfl, rfl, rfl, rfl, rfl, rfl, trivial⟩, hkl, _, conf_set hcf ⟨hkl', hl, by omega, rfl, rfl, by omega, .inl g194⟩ hTk hTp, H18⟩
                                      · refine EL_yes rfl rfl ?_
                                        refine EL_p (Pu_mv rfl) rfl ?_
                                        refine EL_yes rfl rfl ?_
                                        refine EL_p (Pu_mv rfl) rfl ?_
                                        refine EL_yes rfl rfl ?_
                                        first | (refine EL_p (Pu_ixA rfl rfl sl22 rfl hkn (H15.anzM gm2.act hkn)) rfl ?_) | (refine EL_p (Pu_ixA rfl rfl sl22 rfl hlt (H15.anzM gm2.act hlt)) rfl ?_)
                                        refine EL_yes rfl rfl ?_
                                        first | (refine EL_ld rfl fl5 (H15.acellM gm2.act hkn) rfl ?_) | (refine EL_ld rfl fl5 (H15.acellM gm2.act hlt) rfl ?_)
                                        refine EL_yes rfl rfl ?_
                                        refine EL_p (Pu_eql rfl rfl) rfl ?_
                                        refine EL_p (Pu_pf rfl rfl) rfl ?_
                                        refine EL_nil ?_
                                        refine CE_cP rfl (fun c200 => ?_) (fun c200 => ?_)
                                        · refine CE_drawH H15 (fun w' => HP w w' ((Blk cb (s.h.nt * s.h.nt) (fun i => .bool (cf i))) :: M)) [(0, 0), (1, 0), (2, 0), (3, 0), (4, 0), (5, 0), (6, 0), (7, 0), (8, 0), (9, 0), (10, 0), (11, 0), (12, 0), (13, 0), (14, 0), (15, 2)] mixed rfl (by kernel_rfl) (fun w16 H16 => ?_)
                                          refine AO_p rfl H16 (Pu.toIf (Pu_mv rfl)) rfl ?_
                                          refine AO_p rfl H16 (Pu.toIf (Pu_mv rfl)) rfl ?_
                                          refine AO_p rfl H16 (Pu.toIf (Pu_mv rfl)) rfl ?_
                                          first | (refine AO_p rfl H16 (Pu.toIf (Pu_ixA rfl rfl sl24 rfl hkn (H16.anzM gm2.inl.mt hkn))) rfl ?_) | (refine AO_p rfl H16 (Pu.toIf (Pu_ixA rfl rfl sl24 rfl hlt (H16.anzM gm2.inl.mt hlt))) rfl ?_) | (refine AO_p rfl H16 (Pu.toIf (Pu_ix (j := s.h.T k * s.h.nt + s.h.T p) rfl rfl sl24 (by rw [hmulI]; omega) (idx_lt hTk hTp))) rfl ?_)
                                          first | (refine AO_p rfl H16 (Ld rfl fl21 (fun w h => h.acellM gm2.inl.mt hkn)) rfl ?_) | (refine AO_p rfl H16 (Ld rfl fl21 (fun w h => h.acellM gm2.inl.mt hlt)) rfl ?_)
                                          refine AO_p rfl H16 (Pu.toIf (Pu_cnv rfl in21 in3 (w64 (by omega)))) rfl ?_
                                          refine AO_p rfl H16 (Pu.toIf (Pu_mv rfl)) rfl ?_
                                          refine AO_p rfl H16 (Pu.toIf (Pu_mul rfl rfl (w64 (by rw [hmulI]; omega)))) rfl ?_
                                          refine AO_p rfl H16 (Pu.toIf (Pu_mv rfl)) rfl ?_
                                          refine AO_p rfl H16 (Pu.toIf (Pu_mv rfl)) rfl ?_
                                          first | (refine AO_p rfl H16 (Pu.toIf (Pu_ixA rfl rfl sl24 rfl hkn (H16.anzM gm2.inl.mt hkn))) rfl ?_) | (refine AO_p rfl H16 (Pu.toIf (Pu_ixA rfl rfl sl24 rfl hlt (H16.anzM gm2.inl.mt hlt))) rfl ?_) | (refine AO_p rfl H16 (Pu.toIf (Pu_ix (j := s.h.T k * s.h.nt + s.h.T p) rfl rfl sl24 (by rw [hmulI]; omega) (idx_lt hTk hTp))) rfl ?_)
                                          first | (refine AO_p rfl H16 (Ld rfl fl21 (fun w h => h.acellM gm2.inl.mt hkn)) rfl ?_) | (refine AO_p rfl H16 (Ld rfl fl21 (fun w h => h.acellM gm2.inl.mt hlt)) rfl ?_)
                                          refine AO_p rfl H16 (Pu.toIf (Pu_cnv rfl in21 in3 (w64 (by omega)))) rfl ?_
                                          refine AO_p rfl H16 (Pu.toIf (Pu_add rfl rfl (w64 (by rw [hmulI]; omega)))) rfl ?_
                                          first | (refine AO_p rfl H16 (Pu.toIf (Pu_ixA rfl rfl sl25 rfl hkn (H16.anzM gm2.inl.mt hkn))) rfl ?_) | (refine AO_p rfl H16 (Pu.toIf (Pu_ixA rfl rfl sl25 rfl hlt (H16.anzM gm2.inl.mt hlt))) rfl ?_) | (refine AO_p rfl H16 (Pu.toIf (Pu_ix (j := s.h.T k * s.h.nt + s.h.T p) rfl rfl sl25 (by rw [hmulI]; omega) (idx_lt hTk hTp))) rfl ?_)
                                          refine AO_S0 rfl (Lo_st (j := 0) (i := s.h.T k * s.h.nt + s.h.T p) H16 rfl rfl rfl fl4 rfl (idx_lt hTk hTp) (fun w17 H17 => ?_))
                                          refine AO_nil ?_
                                          refine CE_reg ?_
                                          refine EL_p (Pu_mv rfl) rfl ?_
                                          refine EL_p (Pu_add rfl rfl (w64 (by omega))) rfl ?_
                                          refine EL_p (Pu_as rfl) rfl ?_
                                          refine EL_nil ?_
                                          have H18 := H17.congr (j := 0) rfl (fun i _ => setB cf _ _ i)
                                          exact ⟨k + 1, by omega, ⟨rfl, rfl, rfl, rfl, rfl, rfl, rfl, rfl, rfl, rfl, rfl, trivial⟩, hkl, _, conf_set hcf ⟨hkl', hl, by omega, rfl, rfl, by omega, .inr c200⟩ hTk hTp, H18⟩
                                        · refine CE_skip ?_
                                          refine CE_reg ?_
                                          refine EL_p (Pu_mv rfl) rfl ?_
                                          refine EL_p (Pu_add rfl rfl (w64 (by omega))) rfl ?_
                                          refine EL_p (Pu_as rfl) rfl ?_
                                          refine EL_nil ?_
                                          exact ⟨k + 1, by omega, ⟨rfl, rfl, rfl, rfl, rfl, rfl, rfl, rfl, rfl, rfl, rfl, trivial⟩, hkl, cf, conf_same hcf (fun a b hh => hh.wr.elim g194 c200), H15⟩
                              · refine CE_exit ?_
                                refine CE_reg ?_
                                refine EL_p (Pu_mv rfl) rfl ?_
                                refine EL_p (Pu_add rfl rfl (w64 (by omega))) rfl ?_
                                refine EL_p (Pu_as rfl) rfl ?_
                                refine EL_nil ?_
                                have hkp : k = p := by omega
                                subst hkp
                                exact ⟨k + 1, by omega, ⟨rfl, rfl, rfl, rfl, rfl, rfl, rfl, rfl, rfl, trivial⟩, hlt, cf, fun a b ha hb => (hcf a b ha hb).trans (ConfK.next _ _ _ _), H14⟩
                        · have hpn : p = s.h.n := by omega
                          subst hpn
                          have hcf : ∀ a b, a < s.h.nt → b < s.h.nt → (cf (a * s.h.nt + b) = true ↔ Conf s.h a b) := fun a b ha hb => (hcf a b ha hb).trans (ConfK.done _ _ _)
                          refine CE_exit ?_
                          refine CE_seq ?_
                          refine CE_reg ?_
                          refine EL_p (Pu_mv rfl) rfl ?_
                          refine EL_L rfl (Lo_call ca24 rfl ((out24 H13 gm1).mono (fun y w14 hh => ⟨_, hh.1, ?_⟩)))
                          have H14 := hh.2
                          refine EL_p (Pu_as rfl) rfl ?_
                          refine EL_nil ?_
                          refine CE_seq ?_
                          refine CE_seq ?_
                          refine CE_reg ?_
                          refine EL_p (Pu_mv rfl) rfl ?_
                          refine EL_p (Pu_len rfl sl41 rfl) rfl ?_
                          refine EL_p (Pu_mv rfl) rfl ?_
                          refine EL_p (Pu_neq rfl rfl) rfl ?_
                          refine EL_nil ?_
                          refine CE_cN rfl (fun c221 => ?_) (fun c221 => ?_)
                          · exact absurd rfl c221 --stop
                          · refine CE_skip ?_
                            refine CE_seq ?_
                            refine CE_seq ?_
                            refine CE_reg ?_
                            refine EL_p (Pu_as rfl) rfl ?_
                            refine EL_nil ?_
                            refine CE_block ?_
                            refine CE_loop (fun (k : Nat) w' => k ≤ s.h.nt ∧ HP w w' ((Blk cb (s.h.nt * s.h.nt) (fun i => .bool (cf i))) :: M)) (fun k => [(5, aval s.h.za s.h.ba s.h.nt), (18, .int .i64 s.h.nt), (19, .slice (some ⟨cb, 0, none⟩) (s.h.nt * s.h.nt) (s.h.nt * s.h.nt)), (23, .slice (some ⟨s.B.ub, 0, none⟩) s.h.nt s.h.nt), (24, .int .i64 k)]) (fun k => s.h.nt - k) 0 ⟨Nat.zero_le _, H14⟩ ⟨rfl, rfl, rfl, rfl, rfl, trivial⟩ ?_
                            rintro k w15 ⟨hk, H15⟩
                            refine CE_seq ?_
                            refine CE_seq ?_
                            refine CE_reg ?_
                            refine EL_p (Pu_mv rfl) rfl ?_
                            refine EL_p (Pu_mv rfl) rfl ?_
                            refine EL_p (Pu_lss rfl rfl) rfl ?_
                            refine EL_nil ?_
                            refine CE_cP rfl (fun c224 => ?_) (fun c224 => ?_)
                            · have hlt : k < s.h.nt := by omega
                              have hout := gi.out k hlt
                              have houtl := hout.len
                              have hoc : ∀ v, v ∈ outF s.h k s.h.n → Conf s.h k v := fun v hv => outF_conf _ (Nat.le_refl _) hv
                              have hmul : k * s.h.nt ≤ 16777216 := Nat.mul_le_mul (show k ≤ 4096 by omega) hont
                              have hmulI : ((k : Int) * (s.h.nt : Int)) = ((k * s.h.nt : Nat) : Int) := (Int.natCast_mul _ _).symm
                              refine CE_skip ?_
                              refine CE_seq ?_
                              refine CE_block ?_
                              refine CE_seq ?_
                              refine CE_reg ?_
                              refine EL_p (Pu_mv rfl) rfl ?_
                              refine EL_p (Pu_mv rfl) rfl ?_
                              refine EL_p (Pu_ix rfl rfl sl41 rfl hlt) rfl ?_
                              refine EL_ld rfl fl24 (H15.cellM gm1.o hlt) rfl ?_
                              refine EL_p (Pu_len rfl sl24 rfl) rfl ?_
                              refine EL_p (Pu_mv rfl) rfl ?_
                              refine EL_nil ?_
                              refine CE_block ?_
                              refine CE_loop (fun (i : Nat) w' => i ≤ (outF s.h k s.h.n).length ∧ HP w w' ((Blk cb (s.h.nt * s.h.nt) (fun i => .bool (cf i))) :: M)) (fun i => [(5, aval s.h.za s.h.ba s.h.nt), (18, .int .i64 s.h.nt), (19, .slice (some ⟨cb, 0, none⟩) (s.h.nt * s.h.nt) (s.h.nt * s.h.nt)), (23, .slice (some ⟨s.B.ub, 0, none⟩) s.h.nt s.h.nt), (24, .int .i64 k), (230, hdr s.G.Ro k), (231, .int .i64 (s.G.Ro k).len), (232, .int .i64 i)]) (fun i => (outF s.h k s.h.n).length - i) 0 ⟨Nat.zero_le _, H15⟩ ⟨rfl, rfl, rfl, rfl, rfl, rfl, rfl, rfl, trivial⟩ ?_
                              rintro i w16 ⟨hi, H16⟩
                              refine CE_seq ?_
                              refine CE_reg ?_
                              refine EL_p (Pu_lss rfl rfl) rfl ?_
                              refine EL_nil ?_
                              refine CE_seq ?_
                              refine CE_cP rfl (fun c233 => ?_) (fun c233 => ?_)
                              · have hil : i < (outF s.h k s.h.n).length := by omega
                                obtain ⟨rb, hrb, hrv⟩ := H16.rblkM gm1.fo hlt (by omega)
                                have hcv := hoc _ (getD_mem hil)
                                have hvn := (Conf.lt ho hcv).2
                                have hol := outF_length s.h k hon s.h.n (Nat.le_refl _)
                                refine CE_skip ?_
                                refine CE_seq ?_
                                refine CE_block ?_
                                refine CE_seq ?_
                                refine CE_reg ?_
                                refine EL_p (Pu_ix (congrArg some (show hdr s.G.Ro k = _ from hrv)) rfl sl24 rfl (by omega)) rfl ?_
                                refine EL_ld rfl fl21 ((H16.rcellM gm1.fo hlt hrb (i := i) (by omega)).trans (congrArg some (hout.c i hil))) rfl ?_
                                refine EL_p (Pu_as rfl) rfl ?_
                                refine EL_nil ?_
                                refine CE_seq ?_
                                refine CE_reg ?_
                                refine EL_p (Pu_mv rfl) rfl ?_
                                refine EL_p (Pu_lss rfl rfl) rfl ?_
                                refine EL_p (Pu_mv rfl) rfl ?_
                                refine EL_gP rfl rfl (fun g238 => ?_) (fun g238 => ?_)
                                · exfalso; omega --stop
                                · refine EL_yes rfl rfl ?_
                                  refine EL_p (Pu_mv rfl) rfl ?_
                                  refine EL_yes rfl rfl ?_
                                  refine EL_p (Pu_cnv rfl in21 in3 (w64 (by omega))) rfl ?_
                                  refine EL_yes rfl rfl ?_
                                  refine EL_p (Pu_mv rfl) rfl ?_
                                  refine EL_yes rfl rfl ?_
                                  refine EL_p (Pu_geq rfl rfl) rfl ?_
                                  refine EL_p (Pu_pf rfl rfl) rfl ?_
                                  refine EL_p (Pu_mv rfl) rfl ?_
                                  refine EL_gP rfl rfl (fun g244 => ?_) (fun g244 => ?_)
                                  · exfalso; omega --stop
                                  · refine EL_yes rfl rfl ?_
                                    refine EL_p (Pu_mv rfl) rfl ?_
                                    refine EL_yes rfl rfl ?_
                                    refine EL_p (Pu_mv rfl) rfl ?_
                                    refine EL_yes rfl rfl ?_
                                    refine EL_p (Pu_mv rfl) rfl ?_
                                    refine EL_yes rfl rfl ?_
                                    refine EL_p (Pu_mul rfl rfl (w64 (by rw [hmulI]; omega))) rfl ?_
                                    refine EL_yes rfl rfl ?_
                                    refine EL_p (Pu_mv rfl) rfl ?_
                                    refine EL_yes rfl rfl ?_
                                    refine EL_p (Pu_cnv rfl in21 in3 (w64 (by omega))) rfl ?_
                                    refine EL_yes rfl rfl ?_
                                    refine EL_p (Pu_add rfl rfl (w64 (by rw [hmulI]; omega))) rfl ?_
                                    refine EL_yes rfl rfl ?_
                                    refine EL_p (Pu_ix (j := k * s.h.nt + (outF s.h k s.h.n).getD i 0) rfl rfl sl25 (by rw [hmulI]; omega) (idx_lt hlt hvn)) rfl ?_
                                    refine EL_yes rfl rfl ?_
                                    refine EL_ld rfl fl4 (H16.cell (j := 0) rfl (idx_lt hlt hvn)) rfl ?_
                                    refine EL_yes rfl rfl ?_
                                    refine EL_p (Pu_not rfl) rfl ?_
                                    refine EL_p (Pu_pf rfl rfl) rfl ?_
                                    refine EL_nil ?_
                                    refine CE_cB rfl (fun c255 => ?_) (fun c255 => ?_)
                                    · exfalso
                                      have h1 := (hcf k _ hlt hvn).2 hcv
                                      rw [c255] at h1
                                      cases h1 --stop
                                    · refine CE_skip ?_
                                      refine CE_reg ?_
                                      refine EL_p (Pu_add rfl rfl (w64 (by omega))) rfl ?_
                                      refine EL_p (Pu_mv rfl) rfl ?_
                                      refine EL_nil ?_
                                      exact ⟨i + 1, by omega, ⟨rfl, rfl, rfl, rfl, rfl, rfl, rfl, rfl, trivial⟩, hil, H16⟩
                              · refine CE_exit ?_
                                refine CE_reg ?_
                                refine EL_p (Pu_mv rfl) rfl ?_
                                refine EL_p (Pu_add rfl rfl (w64 (by omega))) rfl ?_
                                refine EL_p (Pu_as rfl) rfl ?_
                                refine EL_nil ?_
                                exact ⟨k + 1, by omega, ⟨rfl, rfl, rfl, rfl, rfl, trivial⟩, hlt, H16⟩
                            · refine CE_exit ?_
                              refine CE_seq ?_
                              refine CE_reg ?_
                              refine EL_p (Pu_mv rfl) rfl ?_
                              refine EL_L rfl (Lo_make1 (c := s.h.nt) H15 rfl rfl rfl Try.underlying25 ze4 rfl (by omega) (by omega) (fun sb w16 H16 => ?_))
                              refine EL_p (Pu_as rfl) rfl ?_
                              refine EL_nil ?_
                              refine CE_seq ?_
                              refine CE_reg ?_
                              refine EL_p (Pu_as rfl) rfl ?_
                              refine EL_nil ?_
                              refine CE_seq ?_
                              refine CE_seq ?_
                              refine CE_reg ?_
                              refine EL_p (Pu_as rfl) rfl ?_
                              refine EL_nil ?_
                              refine CE_block ?_
                              have H17 : HP w w16 (Fam 1 1 21 (fun _ => nilRow) :: (Blk sb s.h.nt (fun i => .bool ((fun _ => false) i))) :: (Blk cb (s.h.nt * s.h.nt) (fun i => .bool (cf i))) :: M) := H16.famNil 1 1 21
                              refine CE_loop (fun (g : L6) w' => g.a ≤ s.h.nt ∧ (g.Rq 0).len ≤ 4096 ∧ ∃ sn : Nat → Bool, HP w w' (Fam 1 1 21 g.Rq :: (Blk sb s.h.nt (fun i => .bool ((sn) i))) :: (Blk cb (s.h.nt * s.h.nt) (fun i => .bool (cf i))) :: M)) (fun g => [(5, aval s.h.za s.h.ba s.h.nt), (18, .int .i64 s.h.nt), (19, .slice (some ⟨cb, 0, none⟩) (s.h.nt * s.h.nt) (s.h.nt * s.h.nt)), (23, .slice (some ⟨s.B.ub, 0, none⟩) s.h.nt s.h.nt), (27, .slice (some ⟨sb, 0, none⟩) s.h.nt s.h.nt), (28, ((g.Rq) 0).val), (29, .int .i64 g.a)]) (fun g => s.h.nt - g.a) ⟨0, fun _ => nilRow⟩ ⟨Nat.zero_le _, Nat.zero_le _, _, H17⟩ ⟨rfl, rfl, rfl, rfl, rfl, rfl, rfl, trivial⟩ ?_
                              rintro g w17 ⟨ha, hlq, sn, H18⟩
                              have gm3 := ((gm.cons (Blk cb (s.h.nt * s.h.nt) (fun i => .bool (cf i)))).cons (Blk sb s.h.nt (fun i => .bool ((sn) i)))).cons (Fam 1 1 21 g.Rq)
                              refine CE_seq ?_
                              refine CE_seq ?_
                              refine CE_reg ?_
                              refine EL_p (Pu_mv rfl) rfl ?_
                              refine EL_p (Pu_mv rfl) rfl ?_
                              refine EL_p (Pu_lss rfl rfl) rfl ?_
                              refine EL_nil ?_
                              refine CE_cP rfl (fun c261 => ?_) (fun c261 => ?_)
                              · have hlt : g.a < s.h.nt := by omega
                                refine CE_skip ?_
                                refine CE_seq ?_
                                refine CE_block ?_
                                refine CE_seq ?_
                                refine CE_seq ?_
                                refine CE_reg ?_
                                refine EL_p (Pu_mv rfl) rfl ?_
                                refine EL_p (Pu_mv rfl) rfl ?_
                                refine EL_p (Pu_ixA rfl rfl sl25 rfl hlt (H18.anzM gm3.inl.ma hlt)) rfl ?_
                                refine EL_ld rfl fl4 (H18.acellM gm3.inl.ma hlt) rfl ?_
                                refine EL_nil ?_
                                refine CE_cond rfl (fun c267 => ?_) (fun c267 => ?_)
                                · refine CE_exit ?_
                                  refine CE_reg ?_
                                  refine EL_p (Pu_mv rfl) rfl ?_
                                  refine EL_p (Pu_add rfl rfl (w64 (by omega))) rfl ?_
                                  refine EL_p (Pu_as rfl) rfl ?_
                                  refine EL_nil ?_
                                  exact ⟨⟨g.a + 1, g.Rq⟩, by dsimp only; omega, ⟨rfl, rfl, rfl, rfl, rfl, rfl, rfl, trivial⟩, hlt, hlq, sn, H18⟩
                                · refine CE_skip ?_
                                  refine CE_seq ?_
                                  refine CE_seq ?_
                                  refine CE_reg ?_
                                  refine EL_p (Pu_as rfl) rfl ?_
                                  refine EL_nil ?_
                                  refine CE_block ?_
                                  refine CE_loop (fun (i : Nat) w' => i ≤ s.h.nt ∧ ∃ sn : Nat → Bool, (∀ j, j < i → sn j = false) ∧ HP w w' (Fam 1 1 21 g.Rq :: (Blk sb s.h.nt (fun i => .bool ((sn) i))) :: (Blk cb (s.h.nt * s.h.nt) (fun i => .bool (cf i))) :: M)) (fun i => [(5, aval s.h.za s.h.ba s.h.nt), (18, .int .i64 s.h.nt), (19, .slice (some ⟨cb, 0, none⟩) (s.h.nt * s.h.nt) (s.h.nt * s.h.nt)), (23, .slice (some ⟨s.B.ub, 0, none⟩) s.h.nt s.h.nt), (27, .slice (some ⟨sb, 0, none⟩) s.h.nt s.h.nt), (28, ((g.Rq) 0).val), (29, .int .i64 g.a), (30, .int .i64 i)]) (fun i => s.h.nt - i) 0 ⟨Nat.zero_le _, sn, fun j hj => absurd hj (Nat.not_lt_zero j), H18⟩ ⟨rfl, rfl, rfl, rfl, rfl, rfl, rfl, rfl, trivial⟩ ?_
                                  rintro i w18 ⟨hi, sn, hsn, H19⟩
                                  refine CE_seq ?_
                                  refine CE_seq ?_
                                  refine CE_reg ?_
                                  refine EL_p (Pu_mv rfl) rfl ?_
                                  refine EL_p (Pu_mv rfl) rfl ?_
                                  refine EL_p (Pu_lss rfl rfl) rfl ?_
                                  refine EL_nil ?_
                                  refine CE_cP rfl (fun c270 => ?_) (fun c270 => ?_)
                                  · have hil : i < s.h.nt := by omega
                                    refine CE_skip ?_
                                    refine CE_seq ?_
                                    refine CE_block ?_
                                    refine CE_reg ?_
                                    refine EL_p (Pu_mv rfl) rfl ?_
                                    refine EL_p (Pu_mv rfl) rfl ?_
                                    refine EL_p (Pu_ix rfl rfl sl25 rfl hil) rfl ?_
                                    refine EL_L0 (Lo_st (j := 1) (i := i) H19 rfl rfl rfl fl4 rfl hil (fun w19 H20 => ?_))
                                    refine EL_nil ?_
                                    refine CE_reg ?_
                                    refine EL_p (Pu_mv rfl) rfl ?_
                                    refine EL_p (Pu_add rfl rfl (w64 (by omega))) rfl ?_
                                    refine EL_p (Pu_as rfl) rfl ?_
                                    refine EL_nil ?_
                                    have H21 := H20.congr (j := 1) rfl (fun q _ => setB sn _ _ q)
                                    refine ⟨i + 1, by omega, ⟨rfl, rfl, rfl, rfl, rfl, rfl, rfl, rfl, trivial⟩, hil, _, fun j hj => ?_, H21⟩
                                    by_cases h1 : j = i
                                    · rw [h1, updB_self]
                                    · rw [updB_ne _ _ h1]; exact hsn j (by omega)
                                  · have hsn0 : ∀ j, j < s.h.nt → sn j = false := fun j hj => hsn j (by omega)
                                    refine CE_exit ?_
                                    refine CE_seq ?_
                                    refine CE_reg ?_
                                    refine EL_p (Pu_mv rfl) rfl ?_
                                    refine EL_p (Pu_res (h := 0) rfl rfl sl24 rfl (Nat.zero_le _)) rfl ?_
                                    refine EL_p (Pu_as rfl) rfl ?_
                                    refine EL_nil ?_
                                    refine CE_seq ?_
                                    refine CE_reg ?_
                                    refine EL_p (Pu_mv rfl) rfl ?_
                                    refine EL_p (Pu_mv rfl) rfl ?_
                                    refine EL_p (Pu_ix rfl rfl sl25 rfl hlt) rfl ?_
                                    have H20 := H19.rcut (j := 0) (x := 0) rfl (by decide) (h := 0) (Nat.zero_le _)
                                    refine EL_L0 (Lo_st (j := 1) (i := g.a) H20 rfl rfl rfl fl4 rfl hlt (fun w19 H21 => ?_))
                                    have H22 := H21.congr (j := 1) rfl (fun q _ => setB sn _ _ q)
                                    refine EL_nil ?_
                                    refine CE_seq ?_
                                    refine CE_reg ?_
                                    refine EL_p (Pu_mv rfl) rfl ?_
                                    refine EL_p (Pu_mv rfl) rfl ?_
                                    refine EL_p (Pu_cnv rfl in3 in21 (w32 (by omega))) rfl ?_
                                    refine EL_L rfl (Lo_bs H22 rfl rfl Try.underlying24 ze21 (fun bt w20 H23 => ?_))
                                    refine EL_L rfl (Lo_append (j := 0) (q := 0) H23 rfl (by decide) (by rw [updR_self]; rfl) rfl Try.underlying24 ze21 (by decide) (fun _ _ => rfl) (by rw [updR_self]; show (0 + 1) * 4 ≤ 140737488355328; decide) (by rw [updR_self]; show 0 + 1 ≤ 9223372036854775807; decide) (fun r' w21 hl21 hc21 H24 => ?_))
                                    refine EL_p (Pu_as rfl) rfl ?_
                                    refine EL_nil ?_
                                    refine CE_seq ?_
                                    refine CE_seq ?_
                                    refine CE_reg ?_
                                    refine EL_p (Pu_as rfl) rfl ?_
                                    refine EL_nil ?_
                                    refine CE_block ?_
                                    rw [updR_self] at hl21 hc21
                                    have hrep0 : RepI r' ([] ++ [g.a]) := RepI.app (r := ⟨(g.Rq 0).blk, 0, (g.Rq 0).cap, (g.Rq 0).c⟩) RepI.cut0 hl21 hc21 rfl
                                    have H25 : HP w w21 (Fam 1 1 21 (updR g.Rq 0 r') :: (Blk sb s.h.nt (fun i => .bool ((updB sn g.a true) i))) :: (Blk cb (s.h.nt * s.h.nt) (fun i => .bool (cf i))) :: M) := by
                                      have h1 := H24
                                      rw [updR_updR] at h1
                                      exact h1
                                    refine CE_loop (fun (g7 : L6) w' => ∃ (Q : List Nat) (sn : Nat → Bool), g7.a ≤ Q.length ∧ RepI (g7.Rq 0) Q ∧ BFS s.h g.a g7.a Q sn ∧ HP w w' (Fam 1 1 21 g7.Rq :: (Blk sb s.h.nt (fun i => .bool ((sn) i))) :: (Blk cb (s.h.nt * s.h.nt) (fun i => .bool (cf i))) :: M)) (fun g7 => [(5, aval s.h.za s.h.ba s.h.nt), (18, .int .i64 s.h.nt), (19, .slice (some ⟨cb, 0, none⟩) (s.h.nt * s.h.nt) (s.h.nt * s.h.nt)), (23, .slice (some ⟨s.B.ub, 0, none⟩) s.h.nt s.h.nt), (27, .slice (some ⟨sb, 0, none⟩) s.h.nt s.h.nt), (28, ((g7.Rq) 0).val), (29, .int .i64 g.a), (31, .int .i64 g7.a)]) (fun g7 => s.h.nt - g7.a) ⟨0, updR g.Rq 0 r'⟩ ⟨[g.a], updB sn g.a true, Nat.zero_le _, (by show RepI (updR g.Rq 0 r' 0) _; rw [updR_self]; exact hrep0), BFS.one hlt hsn0, H25⟩ ⟨rfl, rfl, rfl, rfl, rfl, congrArg (fun r => some (Row.val r)) (updR_self g.Rq 0 r').symm, rfl, rfl, trivial⟩ ?_
                                    rintro g7 w22 ⟨Q, sn7, hkq, hrep, hb, H26⟩
                                    have gm4 := ((gm.cons (Blk cb (s.h.nt * s.h.nt) (fun i => .bool (cf i)))).cons (Blk sb s.h.nt (fun i => .bool ((sn7) i)))).cons (Fam 1 1 21 g7.Rq)
                                    have hql := hrep.len
                                    have hqc := hb.len
                                    have hcl := cntT_le sn7 s.h.nt
                                    refine CE_seq ?_
                                    refine CE_seq ?_
                                    refine CE_reg ?_
                                    refine EL_p (Pu_mv rfl) rfl ?_
                                    refine EL_p (Pu_mv rfl) rfl ?_
                                    refine EL_p (Pu_len rfl sl24 rfl) rfl ?_
                                    refine EL_p (Pu_lss rfl rfl) rfl ?_
                                    refine EL_nil ?_
                                    refine CE_cP rfl (fun c289 => ?_) (fun c289 => ?_)
                                    · have hkl : g7.a < Q.length := by omega
                                      obtain ⟨qb, hqb, hqv⟩ := H26.rblk (j := 0) (x := 0) rfl (by decide) (by omega)
                                      have hu := hb.qs _ (getD_mem hkl)
                                      have hout := gi.out _ hu.1
                                      have houtl := hout.len
                                      have hol := outF_length s.h (Q.getD g7.a 0) hon s.h.n (Nat.le_refl _)
                                      refine CE_skip ?_
                                      refine CE_seq ?_
                                      refine CE_block ?_
                                      refine CE_seq ?_
                                      refine CE_reg ?_
                                      refine EL_p (Pu_mv rfl) rfl ?_
                                      refine EL_p (Pu_mv rfl) rfl ?_
                                      refine EL_p (Pu_mv rfl) rfl ?_
                                      first | (refine EL_p (Pu_ix (congrArg some hqv) rfl sl24 rfl (by omega)) rfl ?_) | (refine EL_p (Pu_ix rfl rfl sl24 rfl hu.1) rfl ?_)
                                      first | (refine EL_ld rfl fl21 ((H26.rcell (j := 0) (x := 0) rfl (by decide) hqb (i := g7.a) (by omega)).trans (congrArg some (hrep.c _ hkl))) rfl ?_) | (refine EL_ld rfl fl21 (H26.cellM gm4.o hu.1) rfl ?_)
                                      first | (refine EL_p (Pu_ix (congrArg some hqv) rfl sl41 rfl (by omega)) rfl ?_) | (refine EL_p (Pu_ix rfl rfl sl41 rfl hu.1) rfl ?_)
                                      first | (refine EL_ld rfl fl24 ((H26.rcell (j := 0) (x := 0) rfl (by decide) hqb (i := g7.a) (by omega)).trans (congrArg some (hrep.c _ hkl))) rfl ?_) | (refine EL_ld rfl fl24 (H26.cellM gm4.o hu.1) rfl ?_)
                                      refine EL_p (Pu_len rfl sl24 rfl) rfl ?_
                                      refine EL_p (Pu_mv rfl) rfl ?_
                                      refine EL_nil ?_
                                      refine CE_block ?_
                                      refine CE_loop (fun (g8 : L6) w' => ∃ (Q' : List Nat) (sn : Nat → Bool), g7.a < Q'.length ∧ Q'.getD g7.a 0 = Q.getD g7.a 0 ∧ RepI (g8.Rq 0) Q' ∧ BFS s.h g.a g7.a Q' sn ∧ g8.a ≤ (outF s.h (Q.getD g7.a 0) s.h.n).length ∧ (∀ j, j < g8.a → sn ((outF s.h (Q.getD g7.a 0) s.h.n).getD j 0) = true) ∧ HP w w' (Fam 1 1 21 g8.Rq :: (Blk sb s.h.nt (fun i => .bool ((sn) i))) :: (Blk cb (s.h.nt * s.h.nt) (fun i => .bool (cf i))) :: M)) (fun g8 => [(5, aval s.h.za s.h.ba s.h.nt), (18, .int .i64 s.h.nt), (19, .slice (some ⟨cb, 0, none⟩) (s.h.nt * s.h.nt) (s.h.nt * s.h.nt)), (23, .slice (some ⟨s.B.ub, 0, none⟩) s.h.nt s.h.nt), (27, .slice (some ⟨sb, 0, none⟩) s.h.nt s.h.nt), (28, ((g8.Rq) 0).val), (29, .int .i64 g.a), (31, .int .i64 g7.a), (298, hdr s.G.Ro (Q.getD g7.a 0)), (299, .int .i64 (s.G.Ro (Q.getD g7.a 0)).len), (300, .int .i64 g8.a)]) (fun g8 => (outF s.h (Q.getD g7.a 0) s.h.n).length - g8.a) ⟨0, g7.Rq⟩ ⟨Q, sn7, hkl, rfl, hrep, hb, Nat.zero_le _, fun j hj => absurd hj (Nat.not_lt_zero j), H26⟩ ⟨rfl, rfl, rfl, rfl, rfl, rfl, rfl, rfl, rfl, rfl, rfl, trivial⟩ ?_
                                      rintro g8 w23 ⟨Q', sn8, hk8, hu8, hrep8, hb8, hi8, hsd, H27⟩
                                      have gm5 := ((gm.cons (Blk cb (s.h.nt * s.h.nt) (fun i => .bool (cf i)))).cons (Blk sb s.h.nt (fun i => .bool ((sn8) i)))).cons (Fam 1 1 21 g8.Rq)
                                      have hql8 := hrep8.len
                                      have hqc8 := hb8.len
                                      have hcl8 := cntT_le sn8 s.h.nt
                                      refine CE_seq ?_
                                      refine CE_reg ?_
                                      refine EL_p (Pu_lss rfl rfl) rfl ?_
                                      refine EL_nil ?_
                                      refine CE_seq ?_
                                      refine CE_cP rfl (fun c301 => ?_) (fun c301 => ?_)
                                      · have hil : g8.a < (outF s.h (Q.getD g7.a 0) s.h.n).length := by omega
                                        obtain ⟨rb, hrb, hrv⟩ := H27.rblkM gm5.fo hu.1 (by omega)
                                        have hvn := (Conf.lt ho (outF_conf _ (Nat.le_refl _) (getD_mem hil))).2
                                        refine CE_skip ?_
                                        refine CE_seq ?_
                                        refine CE_block ?_
                                        refine CE_seq ?_
                                        refine CE_reg ?_
                                        refine EL_p (Pu_ix (congrArg some (show hdr s.G.Ro (Q.getD g7.a 0) = _ from hrv)) rfl sl24 rfl (by omega)) rfl ?_
                                        refine EL_ld rfl fl21 ((H27.rcellM gm5.fo hu.1 hrb (i := g8.a) (by omega)).trans (congrArg some (hout.c _ hil))) rfl ?_
                                        refine EL_p (Pu_as rfl) rfl ?_
                                        refine EL_nil ?_
                                        refine CE_seq ?_
                                        refine CE_reg ?_
                                        refine EL_p (Pu_mv rfl) rfl ?_
                                        refine EL_p (Pu_mv rfl) rfl ?_
                                        refine EL_p (Pu_ix rfl rfl sl25 rfl hvn) rfl ?_
                                        refine EL_ld rfl fl4 (H27.cell (j := 1) rfl hvn) rfl ?_
                                        refine EL_p (Pu_not rfl) rfl ?_
                                        refine EL_nil ?_
                                        refine CE_cB rfl (fun c308 => ?_) (fun c308 => ?_)
                                        · refine CE_seq ?_
                                          refine CE_reg ?_
                                          refine EL_p (Pu_mv rfl) rfl ?_
                                          refine EL_p (Pu_mv rfl) rfl ?_
                                          refine EL_p (Pu_ix rfl rfl sl25 rfl hvn) rfl ?_
                                          refine EL_L0 (Lo_st (j := 1) (i := ((outF s.h (Q.getD g7.a 0) s.h.n).getD g8.a 0)) H27 rfl rfl rfl fl4 rfl hvn (fun w24 H28 => ?_))
                                          have H29 := H28.congr (j := 1) rfl (fun q _ => setB sn8 _ _ q)
                                          refine EL_nil ?_
                                          refine CE_reg ?_
                                          refine EL_p (Pu_mv rfl) rfl ?_
                                          refine EL_p (Pu_mv rfl) rfl ?_
                                          refine EL_L rfl (Lo_bs H29 rfl rfl Try.underlying24 ze21 (fun bt w25 H30 => ?_))
                                          refine EL_L rfl (Lo_append (j := 0) (q := 0) H30 rfl (by decide) rfl rfl Try.underlying24 ze21 (by decide) (fun _ _ => rfl) (by omega) (by omega) (fun r8 w26 hl26 hc26 H31 => ?_))
                                          refine EL_p (Pu_as rfl) rfl ?_
                                          refine EL_nil ?_
                                          refine CE_reg ?_
                                          refine EL_p (Pu_add rfl rfl (w64 (by omega))) rfl ?_
                                          refine EL_p (Pu_mv rfl) rfl ?_
                                          refine EL_nil ?_
                                          refine ⟨⟨g8.a + 1, updR g8.Rq 0 r8⟩, by dsimp only; omega, ⟨rfl, rfl, rfl, rfl, rfl, congrArg (fun r => some (Row.val r)) (updR_self g8.Rq 0 r8).symm, rfl, rfl, rfl, rfl, rfl, trivial⟩, Q' ++ [((outF s.h (Q.getD g7.a 0) s.h.n).getD g8.a 0)], updB sn8 ((outF s.h (Q.getD g7.a 0) s.h.n).getD g8.a 0) true, (by rw [List.length_append]; omega), ?_, ?_, hb8.push (by omega) hvn c308, hil, fun j hj => ?_, H31⟩
                                          · rw [← hu8]; simp [List.getElem?_append_left hk8]
                                          · show RepI (updR g8.Rq 0 r8 0) _
                                            rw [updR_self]; exact hrep8.app hl26 hc26 rfl
                                          · by_cases h1 : j = g8.a
                                            · rw [h1, updB_self]
                                            · exact updB_mono (hsd j (by dsimp only at hj; omega))
                                        · refine CE_skip ?_
                                          refine CE_reg ?_
                                          refine EL_p (Pu_add rfl rfl (w64 (by omega))) rfl ?_
                                          refine EL_p (Pu_mv rfl) rfl ?_
                                          refine EL_nil ?_
                                          refine ⟨⟨g8.a + 1, g8.Rq⟩, by dsimp only; omega, ⟨rfl, rfl, rfl, rfl, rfl, rfl, rfl, rfl, rfl, rfl, rfl, trivial⟩, Q', sn8, hk8, hu8, hrep8, hb8, hil, fun j hj => ?_, H27⟩
                                          by_cases h1 : j = g8.a
                                          · rw [h1]; exact c308
                                          · exact hsd j (by dsimp only at hj; omega)
                                      · refine CE_exit ?_
                                        refine CE_reg ?_
                                        refine EL_p (Pu_mv rfl) rfl ?_
                                        refine EL_p (Pu_add rfl rfl (w64 (by omega))) rfl ?_
                                        refine EL_p (Pu_as rfl) rfl ?_
                                        refine EL_nil ?_
                                        refine ⟨⟨g7.a + 1, g8.Rq⟩, by dsimp only; omega, ⟨rfl, rfl, rfl, rfl, rfl, rfl, rfl, rfl, trivial⟩, Q', sn8, hk8, hrep8, ⟨hb8.len, hb8.qs, hb8.sq, hb8.me, fun j hj v hv => ?_⟩, H27⟩
                                        by_cases h1 : j = g7.a
                                        · rw [h1, hu8] at hv
                                          obtain ⟨q, hq, e⟩ := getD_of_mem hv
                                          have h2 := hsd q (by omega)
                                          rw [e] at h2; exact h2
                                        · exact hb8.done j (by dsimp only at hj; omega) v hv
                                    · have hkQ : g7.a = Q.length := by omega
                                      have hbQ : BFS s.h g.a Q.length Q sn7 := by rw [← hkQ]; exact hb
                                      have hclosed := hbQ.closed ho
                                      have hmul : g.a * s.h.nt ≤ 16777216 := Nat.mul_le_mul (show g.a ≤ 4096 by omega) hont
                                      have hmulI : ((g.a : Int) * (s.h.nt : Int)) = ((g.a * s.h.nt : Nat) : Int) := (Int.natCast_mul _ _).symm
                                      refine CE_exit ?_
                                      refine CE_seq ?_
                                      refine CE_reg ?_
                                      refine EL_p (Pu_as rfl) rfl ?_
                                      refine EL_nil ?_
                                      refine CE_block ?_
                                      refine CE_loop (fun (b : Nat) w' => b ≤ s.h.nt ∧ HP w w' (Fam 1 1 21 g7.Rq :: (Blk sb s.h.nt (fun i => .bool ((sn7) i))) :: (Blk cb (s.h.nt * s.h.nt) (fun i => .bool (cf i))) :: M)) (fun b => [(5, aval s.h.za s.h.ba s.h.nt), (18, .int .i64 s.h.nt), (19, .slice (some ⟨cb, 0, none⟩) (s.h.nt * s.h.nt) (s.h.nt * s.h.nt)), (23, .slice (some ⟨s.B.ub, 0, none⟩) s.h.nt s.h.nt), (27, .slice (some ⟨sb, 0, none⟩) s.h.nt s.h.nt), (28, ((g7.Rq) 0).val), (29, .int .i64 g.a), (34, .int .i64 b)]) (fun b => s.h.nt - b) 0 ⟨Nat.zero_le _, H26⟩ ⟨rfl, rfl, rfl, rfl, rfl, rfl, rfl, rfl, trivial⟩ ?_
                                      rintro b w23 ⟨hbn, H27⟩
                                      refine CE_seq ?_
                                      refine CE_seq ?_
                                      refine CE_reg ?_
                                      refine EL_p (Pu_mv rfl) rfl ?_
                                      refine EL_p (Pu_mv rfl) rfl ?_
                                      refine EL_p (Pu_lss rfl rfl) rfl ?_
                                      refine EL_nil ?_
                                      refine CE_cP rfl (fun c319 => ?_) (fun c319 => ?_)
                                      · have hbl : b < s.h.nt := by omega
                                        refine CE_skip ?_
                                        refine CE_seq ?_
                                        refine CE_block ?_
                                        refine CE_seq ?_
                                        refine CE_reg ?_
                                        refine EL_p (Pu_mv rfl) rfl ?_
                                        refine EL_p (Pu_mv rfl) rfl ?_
                                        refine EL_p (Pu_mv rfl) rfl ?_
                                        refine EL_p (Pu_mul rfl rfl (w64 (by rw [hmulI]; omega))) rfl ?_
                                        refine EL_p (Pu_mv rfl) rfl ?_
                                        refine EL_p (Pu_add rfl rfl (w64 (by rw [hmulI]; omega))) rfl ?_
                                        first | (refine EL_p (Pu_ix (j := g.a * s.h.nt + b) rfl rfl sl25 (by rw [hmulI]; omega) (idx_lt hlt hbl)) rfl ?_) | (refine EL_p (Pu_ix rfl rfl sl25 rfl hbl) rfl ?_)
                                        first | (refine EL_ld rfl fl4 (H27.cell (j := 2) rfl (idx_lt hlt hbl)) rfl ?_) | (refine EL_ld rfl fl4 (H27.cell (j := 1) rfl hbl) rfl ?_)
                                        refine EL_p (Pu_mv rfl) rfl ?_
                                        refine EL_gB rfl rfl (fun g330 => ?_) (fun g330 => ?_)
                                        · refine EL_yes rfl rfl ?_
                                          refine EL_p (Pu_mv rfl) rfl ?_
                                          refine EL_yes rfl rfl ?_
                                          refine EL_p (Pu_mv rfl) rfl ?_
                                          refine EL_yes rfl rfl ?_
                                          first | (refine EL_p (Pu_ix (j := g.a * s.h.nt + b) rfl rfl sl25 (by rw [hmulI]; omega) (idx_lt hlt hbl)) rfl ?_) | (refine EL_p (Pu_ix rfl rfl sl25 rfl hbl) rfl ?_)
                                          refine EL_yes rfl rfl ?_
                                          first | (refine EL_ld rfl fl4 (H27.cell (j := 2) rfl (idx_lt hlt hbl)) rfl ?_) | (refine EL_ld rfl fl4 (H27.cell (j := 1) rfl hbl) rfl ?_)
                                          refine EL_yes rfl rfl ?_
                                          refine EL_p (Pu_not rfl) rfl ?_
                                          refine EL_p (Pu_pt rfl rfl) rfl ?_
                                          refine EL_nil ?_
                                          refine CE_cB rfl (fun c336 => ?_) (fun c336 => ?_)
                                          · exfalso
                                            have h1 := (closed_conf (S := fun u => u < s.h.nt ∧ sn7 u = true) hclosed ⟨hlt, hbQ.me⟩ ((hcf _ _ hlt hbl).1 g330)).2
                                            rw [c336] at h1
                                            cases h1 --stop
                                          · refine CE_skip ?_
                                            refine CE_reg ?_
                                            refine EL_p (Pu_mv rfl) rfl ?_
                                            refine EL_p (Pu_add rfl rfl (w64 (by omega))) rfl ?_
                                            refine EL_p (Pu_as rfl) rfl ?_
                                            refine EL_nil ?_
                                            exact ⟨b + 1, by omega, ⟨rfl, rfl, rfl, rfl, rfl, rfl, rfl, rfl, trivial⟩, hbl, H27⟩
                                        · refine EL_no rfl rfl rfl rfl ?_
                                          refine EL_no rfl rfl rfl rfl ?_
                                          refine EL_no rfl rfl rfl rfl ?_
                                          refine EL_no rfl rfl rfl rfl ?_
                                          refine EL_no rfl rfl rfl rfl ?_
                                          refine EL_p (Pu_pf rfl rfl) rfl ?_
                                          refine EL_nil ?_
                                          refine CE_cond_f rfl ?_
                                          refine CE_skip ?_
                                          refine CE_reg ?_
                                          refine EL_p (Pu_mv rfl) rfl ?_
                                          refine EL_p (Pu_add rfl rfl (w64 (by omega))) rfl ?_
                                          refine EL_p (Pu_as rfl) rfl ?_
                                          refine EL_nil ?_
                                          exact ⟨b + 1, by omega, ⟨rfl, rfl, rfl, rfl, rfl, rfl, rfl, rfl, trivial⟩, hbl, H27⟩
                                      · refine CE_exit ?_
                                        refine CE_reg ?_
                                        refine EL_p (Pu_mv rfl) rfl ?_
                                        refine EL_p (Pu_add rfl rfl (w64 (by omega))) rfl ?_
                                        refine EL_p (Pu_as rfl) rfl ?_
                                        refine EL_nil ?_
                                        exact ⟨⟨g.a + 1, g7.Rq⟩, by dsimp only; omega, ⟨rfl, rfl, rfl, rfl, rfl, rfl, rfl, trivial⟩, hlt, (by dsimp only; omega), sn7, H27⟩
                              · refine CE_exit ?_
                                refine CE_seq ?_
                                refine CE_reg ?_
                                refine EL_p (Pu_as rfl) rfl ?_
                                refine EL_nil ?_
                                refine CE_ret ?_
                                exact ⟨_, rfl, rfl, H18.below⟩
end Go.Proofs.Qxb6602549a
