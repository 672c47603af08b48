/-
  The two laws on recovery, walked.
-/
import Derived.Test.Qxb6602549aBytes
namespace Go.Proofs.Qxb6602549a
open Go Go.RowKit
set_option linter.unusedSimpArgs false
set_option linter.unusedVariables false

/-- what the laws are told of their arguments -/
structure Args (w : World) (a0 a1 a2 a3 a5 a6 : Option Addr) (l0 l1 l2 l3 l5 l6 : Nat) (A X T I E : Nat → Int) (B : Nat → Bool) : Prop where
  s0 : Src w a0 l0 (fun i => .int .u8 (A i))
  s1 : Src w a1 l1 (fun i => .int .i64 (X i))
  s2 : Src w a2 l2 (fun i => .int .i32 (T i))
  s3 : Src w a3 l3 (fun i => .int .i32 (I i))
  s5 : Src w a5 l5 (fun i => .bool (B i))
  s6 : Src w a6 l6 (fun i => .int .i64 (E i))
  hT : ∀ i, i < l2 → -2147483648 ≤ T i ∧ T i ≤ 2147483647
  hI : ∀ i, i < l3 → -2147483648 ≤ I i ∧ I i ≤ 2147483647

/-- the history out of the copies -/
def mkH (hb ob n nt m : Nat) (z1 : Bool) (b1 : Nat) (z2 : Bool) (b2 : Nat) (z3 : Bool) (b3 : Nat) (z5 : Bool) (b5 : Nat) (ev : Value) (A X T I : Nat → Int) (B : Nat → Bool) : HRec :=
  ⟨hb, ob, n, nt, m, z1, b1, z2, b2, z3, b3, z5, b5, ev, A, fun p => (T p).toNat, I, X, B⟩

section
variable {hb ob n nt m : Nat} {z1 : Bool} {b1 : Nat} {z2 : Bool} {b2 : Nat} {z3 : Bool} {b3 : Nat} {z5 : Bool} {b5 : Nat} {ev : Value} {A X T I E : Nat → Int} {B : Nat → Bool}

theorem mkH_ok (hn : n ≤ 4096) (hnt : nt ≤ 4096) (hm : m ≤ 65536) (ok : ∀ p, p < n → OpOK A T I nt m p) : HOK (mkH hb ob n nt m z1 b1 z2 b2 z3 b3 z5 b5 ev A X T I B) := by
  refine ⟨hn, hnt, hm, fun p hp => ?_⟩
  have hp' : p < n := hp
  obtain ⟨g1, g2, g3⟩ := ok p hp'
  refine ⟨?_, g3⟩
  show (T p).toNat < nt
  omega

theorem mkH_ends (ok : ∀ p, p < n → OpOK A T I nt m p) (he : Ends n nt A T B E) : EPl (mkH hb ob n nt m z1 b1 z2 b2 z3 b3 z5 b5 ev A X T I B) (fun t => (E t).toNat) := by
  refine ⟨fun t ht => ?_, fun t ht hl => ?_, fun p hp => ?_⟩
  · have := he.rng t ht
    show (E t).toNat ≤ n
    omega
  · have h1 := he.rng t ht
    have hl' : (E t).toNat < n := hl
    obtain ⟨h2, h3⟩ := he.own t ht (by omega)
    refine ⟨?_, h3⟩
    show (T (E t).toNat).toNat = t
    omega
  · have hp' : p < n := hp
    obtain ⟨h1, h2⟩ := he.aft p hp'
    refine ⟨?_, fun hA => ?_⟩
    · show p ≤ (E (T p).toNat).toNat
      omega
    · have := h2 hA
      show (E (T p).toNat).toNat = p
      omega

theorem HP.hist {W0 w : World} {z0 z6 : Bool} {b0 b6 : Nat} (H : HP W0 w [Blk hb 7 (cellsF [.slice (some ⟨ob, 0, none⟩) n n, aval z1 b1 nt, aval z2 b2 n, aval z3 b3 n, .int .i64 m, aval z5 b5 nt, aval z6 b6 nt]), Blk ob (n * 3) (opsF A),
      Arr z6 b6 nt (fun i => .int .i64 (E i)), Arr z5 b5 nt (fun i => .bool (B i)), Arr z3 b3 n (fun i => .int .i32 (I i)), Arr z2 b2 n (fun i => .int .i32 (T i)), Arr z1 b1 nt (fun i => .int .i64 (X i)), Arr z0 b0 n (fun i => .int .u8 (A i))])
    (ok : ∀ p, p < n → 0 ≤ T p) (he : ∀ t, t < nt → 0 ≤ E t) :
    ∃ L, HP W0 w L ∧ InL (mkH hb ob n nt m z1 b1 z2 b2 z3 b3 z5 b5 (aval z6 b6 nt) A X T I B) L ∧ EOK (mkH hb ob n nt m z1 b1 z2 b2 z3 b3 z5 b5 (aval z6 b6 nt) A X T I B) (fun t => (E t).toNat) z6 b6 L := by
  have H1 := H.acongr (j := 5) rfl (g := fun p => .int .i32 ((T p).toNat : Nat)) (fun i hi => by
    have := ok i hi
    simp only [Int.toNat_of_nonneg this])
  have H2 := H1.acongr (j := 2) rfl (g := fun p => .int .i64 ((E p).toNat : Nat)) (fun i hi => by
    have := he i hi
    simp only [Int.toNat_of_nonneg this])
  refine ⟨_, H2, ⟨?_, ?_, ?_, ?_, ?_⟩, ⟨rfl, ?_⟩⟩
  · exact List.mem_of_getElem? (i := 0) rfl
  · exact List.mem_of_getElem? (i := 1) rfl
  · exact List.mem_of_getElem? (i := 5) rfl
  · exact List.mem_of_getElem? (i := 4) rfl
  · exact List.mem_of_getElem? (i := 3) rfl
  · exact List.mem_of_getElem? (i := 2) rfl
end

theorem retB {b : Bool} (h : b = true) : Ending.returned (resOf [.bool b]) = .returned (.bool true) := by rw [h]; rfl


set_option maxHeartbeats 1000000 in
theorem law4 {w : World} {a0 a1 a2 a3 a5 a6 : Option Addr} {l0 l1 l2 l3 l5 l6 c0 c1 c2 c3 c5 c6 : Nat} {A X T I E : Nat → Int} {B : Nat → Bool} {m : Int} (ar : Args w a0 a1 a2 a3 a5 a6 l0 l1 l2 l3 l5 l6 A X T I E B) :
    Calls Try.prog 4 #[.slice a0 l0 c0, .slice a1 l1 c1, .slice a2 l2 c2, .slice a3 l3 c3, .int .i64 m, .slice a5 l5 c5, .slice a6 l6 c6] w fun x w' => x = .returned (.bool true) ∧ Below w.heap.size w w' := by
  have H := HP.start w
  obtain ⟨s0, s1, s2, s3, s5, s6, hT, hI⟩ := ar
  refine calls_CE Try.func4 rfl Try.ntmps4 rfl rfl ?_
  refine CE_seq ?_
  refine CE_reg ?_
  refine EL_p (Pu_as rfl) rfl ?_
  refine EL_nil ?_
  refine CE_seq ?_
  refine CE_seq ?_
  refine CE_reg ?_
  refine EL_p (Pu_mv rfl) rfl ?_
  refine EL_p (Pu_mv rfl) rfl ?_
  refine EL_p (Pu_mv rfl) rfl ?_
  refine EL_p (Pu_mv rfl) rfl ?_
  refine EL_p (Pu_mv rfl) rfl ?_
  refine EL_p (Pu_mv rfl) rfl ?_
  refine EL_p (Pu_mv rfl) rfl ?_
  refine EL_L rfl (Lo_call ca19 rfl ((bytes19 H).mono (fun y w1 hh => ?_)))
  obtain ⟨⟨bb, hy, hbb⟩, H1⟩ := hh
  refine ⟨_, hy, ?_⟩
  refine EL_p (Pu_not rfl) rfl ?_
  refine EL_nil ?_
  refine CE_cB rfl (fun c28 => ?_) (fun c28 => ?_)
  · refine CE_seq ?_
    refine CE_reg ?_
    refine EL_p (Pu_as rfl) rfl ?_
    refine EL_nil ?_
    refine CE_ret ?_
    exact ⟨_, rfl, rfl, H1.below⟩
  · have hb := hbb c28
    refine CE_skip ?_
    refine CE_seq ?_
    refine CE_seq ?_
    refine CE_reg ?_
    refine EL_p (Pu_mv rfl) rfl ?_
    refine EL_p (Pu_len rfl sl22 rfl) rfl ?_
    refine EL_p (Pu_mv rfl) rfl ?_
    refine EL_p (Pu_len rfl sl23 rfl) rfl ?_
    refine EL_p (Pu_mul rfl rfl (w64 (by omega))) rfl ?_
    refine EL_p (Pu_add rfl rfl (w64 (by omega))) rfl ?_
    refine EL_p (Pu_mv rfl) rfl ?_
    refine EL_p (Pu_len rfl sl24 rfl) rfl ?_
    refine EL_p (Pu_mul rfl rfl (w64 (by omega))) rfl ?_
    refine EL_p (Pu_add rfl rfl (w64 (by omega))) rfl ?_
    refine EL_p (Pu_mv rfl) rfl ?_
    refine EL_p (Pu_len rfl sl24 rfl) rfl ?_
    refine EL_p (Pu_mul rfl rfl (w64 (by omega))) rfl ?_
    refine EL_p (Pu_add rfl rfl (w64 (by omega))) rfl ?_
    refine EL_p (Pu_mv rfl) rfl ?_
    refine EL_p (Pu_len rfl sl25 rfl) rfl ?_
    refine EL_p (Pu_add rfl rfl (w64 (by omega))) rfl ?_
    refine EL_p (Pu_mv rfl) rfl ?_
    refine EL_p (Pu_len rfl sl23 rfl) rfl ?_
    refine EL_p (Pu_mul rfl rfl (w64 (by omega))) rfl ?_
    refine EL_p (Pu_add rfl rfl (w64 (by omega))) rfl ?_
    refine EL_p (Pu_gtr rfl rfl) rfl ?_
    refine EL_nil ?_
    refine CE_cP rfl (fun c50 => ?_) (fun c50 => ?_)
    · refine CE_seq ?_
      refine CE_reg ?_
      refine EL_p (Pu_as rfl) rfl ?_
      refine EL_nil ?_
      refine CE_ret ?_
      exact ⟨_, rfl, rfl, H1.below⟩
    · refine CE_skip ?_
      refine CE_seq ?_
      refine CE_seq ?_
      refine CE_reg ?_
      refine EL_p (Pu_mv rfl) rfl ?_
      refine EL_p (Pu_len rfl sl22 rfl) rfl ?_
      refine EL_p (Pu_gtr rfl rfl) rfl ?_
      refine EL_p (Pu_mv rfl) rfl ?_
      refine EL_gP rfl rfl (fun g54 => ?_) (fun g54 => ?_)
      · refine EL_no rfl rfl rfl rfl ?_
        refine EL_no rfl rfl rfl rfl ?_
        refine EL_no rfl rfl rfl rfl ?_
        refine EL_p (Pu_pt rfl rfl) rfl ?_
        refine EL_p (Pu_mv rfl) rfl ?_
        refine EL_no rfl rfl rfl rfl ?_
        refine EL_no rfl rfl rfl rfl ?_
        refine EL_no rfl rfl rfl rfl ?_
        refine EL_p (Pu_pt rfl rfl) rfl ?_
        refine EL_p (Pu_mv rfl) rfl ?_
        refine EL_no rfl rfl rfl rfl ?_
        refine EL_no rfl rfl rfl rfl ?_
        refine EL_no rfl rfl rfl rfl ?_
        refine EL_p (Pu_pt rfl rfl) rfl ?_
        refine EL_p (Pu_mv rfl) rfl ?_
        refine EL_no rfl rfl rfl rfl ?_
        refine EL_no rfl rfl rfl rfl ?_
        refine EL_no rfl rfl rfl rfl ?_
        refine EL_p (Pu_pt rfl rfl) rfl ?_
        refine EL_p (Pu_mv rfl) rfl ?_
        refine EL_no rfl rfl rfl rfl ?_
        refine EL_no rfl rfl rfl rfl ?_
        refine EL_no rfl rfl rfl rfl ?_
        refine EL_p (Pu_pt rfl rfl) rfl ?_
        refine EL_nil ?_
        refine CE_cond_t rfl ?_
        refine CE_seq ?_
        refine CE_reg ?_
        refine EL_p (Pu_as rfl) rfl ?_
        refine EL_nil ?_
        refine CE_ret ?_
        exact ⟨_, rfl, rfl, H1.below⟩
      · refine EL_yes rfl rfl ?_
        refine EL_p (Pu_mv rfl) rfl ?_
        refine EL_yes rfl rfl ?_
        refine EL_p (Pu_len rfl sl23 rfl) rfl ?_
        refine EL_yes rfl rfl ?_
        refine EL_p (Pu_gtr rfl rfl) rfl ?_
        refine EL_p (Pu_pf rfl rfl) rfl ?_
        refine EL_p (Pu_mv rfl) rfl ?_
        refine EL_gP rfl rfl (fun g59 => ?_) (fun g59 => ?_)
        · refine EL_no rfl rfl rfl rfl ?_
          refine EL_no rfl rfl rfl rfl ?_
          refine EL_no rfl rfl rfl rfl ?_
          refine EL_p (Pu_pt rfl rfl) rfl ?_
          refine EL_p (Pu_mv rfl) rfl ?_
          refine EL_no rfl rfl rfl rfl ?_
          refine EL_no rfl rfl rfl rfl ?_
          refine EL_no rfl rfl rfl rfl ?_
          refine EL_p (Pu_pt rfl rfl) rfl ?_
          refine EL_p (Pu_mv rfl) rfl ?_
          refine EL_no rfl rfl rfl rfl ?_
          refine EL_no rfl rfl rfl rfl ?_
          refine EL_no rfl rfl rfl rfl ?_
          refine EL_p (Pu_pt rfl rfl) rfl ?_
          refine EL_p (Pu_mv rfl) rfl ?_
          refine EL_no rfl rfl rfl rfl ?_
          refine EL_no rfl rfl rfl rfl ?_
          refine EL_no rfl rfl rfl rfl ?_
          refine EL_p (Pu_pt rfl rfl) rfl ?_
          refine EL_nil ?_
          refine CE_cond_t rfl ?_
          refine CE_seq ?_
          refine CE_reg ?_
          refine EL_p (Pu_as rfl) rfl ?_
          refine EL_nil ?_
          refine CE_ret ?_
          exact ⟨_, rfl, rfl, H1.below⟩
        · refine EL_yes rfl rfl ?_
          refine EL_p (Pu_mv rfl) rfl ?_
          refine EL_yes rfl rfl ?_
          refine EL_p (Pu_len rfl sl24 rfl) rfl ?_
          refine EL_yes rfl rfl ?_
          refine EL_p (Pu_gtr rfl rfl) rfl ?_
          refine EL_p (Pu_pf rfl rfl) rfl ?_
          refine EL_p (Pu_mv rfl) rfl ?_
          refine EL_gP rfl rfl (fun g64 => ?_) (fun g64 => ?_)
          · refine EL_no rfl rfl rfl rfl ?_
            refine EL_no rfl rfl rfl rfl ?_
            refine EL_no rfl rfl rfl rfl ?_
            refine EL_p (Pu_pt rfl rfl) rfl ?_
            refine EL_p (Pu_mv rfl) rfl ?_
            refine EL_no rfl rfl rfl rfl ?_
            refine EL_no rfl rfl rfl rfl ?_
            refine EL_no rfl rfl rfl rfl ?_
            refine EL_p (Pu_pt rfl rfl) rfl ?_
            refine EL_p (Pu_mv rfl) rfl ?_
            refine EL_no rfl rfl rfl rfl ?_
            refine EL_no rfl rfl rfl rfl ?_
            refine EL_no rfl rfl rfl rfl ?_
            refine EL_p (Pu_pt rfl rfl) rfl ?_
            refine EL_nil ?_
            refine CE_cond_t rfl ?_
            refine CE_seq ?_
            refine CE_reg ?_
            refine EL_p (Pu_as rfl) rfl ?_
            refine EL_nil ?_
            refine CE_ret ?_
            exact ⟨_, rfl, rfl, H1.below⟩
          · refine EL_yes rfl rfl ?_
            refine EL_p (Pu_mv rfl) rfl ?_
            refine EL_yes rfl rfl ?_
            refine EL_p (Pu_len rfl sl24 rfl) rfl ?_
            refine EL_yes rfl rfl ?_
            refine EL_p (Pu_gtr rfl rfl) rfl ?_
            refine EL_p (Pu_pf rfl rfl) rfl ?_
            refine EL_p (Pu_mv rfl) rfl ?_
            refine EL_gP rfl rfl (fun g69 => ?_) (fun g69 => ?_)
            · refine EL_no rfl rfl rfl rfl ?_
              refine EL_no rfl rfl rfl rfl ?_
              refine EL_no rfl rfl rfl rfl ?_
              refine EL_p (Pu_pt rfl rfl) rfl ?_
              refine EL_p (Pu_mv rfl) rfl ?_
              refine EL_no rfl rfl rfl rfl ?_
              refine EL_no rfl rfl rfl rfl ?_
              refine EL_no rfl rfl rfl rfl ?_
              refine EL_p (Pu_pt rfl rfl) rfl ?_
              refine EL_nil ?_
              refine CE_cond_t rfl ?_
              refine CE_seq ?_
              refine CE_reg ?_
              refine EL_p (Pu_as rfl) rfl ?_
              refine EL_nil ?_
              refine CE_ret ?_
              exact ⟨_, rfl, rfl, H1.below⟩
            · refine EL_yes rfl rfl ?_
              refine EL_p (Pu_mv rfl) rfl ?_
              refine EL_yes rfl rfl ?_
              refine EL_p (Pu_len rfl sl25 rfl) rfl ?_
              refine EL_yes rfl rfl ?_
              refine EL_p (Pu_gtr rfl rfl) rfl ?_
              refine EL_p (Pu_pf rfl rfl) rfl ?_
              refine EL_p (Pu_mv rfl) rfl ?_
              refine EL_gP rfl rfl (fun g74 => ?_) (fun g74 => ?_)
              · refine EL_no rfl rfl rfl rfl ?_
                refine EL_no rfl rfl rfl rfl ?_
                refine EL_no rfl rfl rfl rfl ?_
                refine EL_p (Pu_pt rfl rfl) rfl ?_
                refine EL_nil ?_
                refine CE_cond_t rfl ?_
                refine CE_seq ?_
                refine CE_reg ?_
                refine EL_p (Pu_as rfl) rfl ?_
                refine EL_nil ?_
                refine CE_ret ?_
                exact ⟨_, rfl, rfl, H1.below⟩
              · refine EL_yes rfl rfl ?_
                refine EL_p (Pu_mv rfl) rfl ?_
                refine EL_yes rfl rfl ?_
                refine EL_p (Pu_len rfl sl23 rfl) rfl ?_
                refine EL_yes rfl rfl ?_
                refine EL_p (Pu_gtr rfl rfl) rfl ?_
                refine EL_p (Pu_pf rfl rfl) rfl ?_
                refine EL_nil ?_
                refine CE_cP rfl (fun c78 => ?_) (fun c78 => ?_)
                · refine CE_seq ?_
                  refine CE_reg ?_
                  refine EL_p (Pu_as rfl) rfl ?_
                  refine EL_nil ?_
                  refine CE_ret ?_
                  exact ⟨_, rfl, rfl, H1.below⟩
                · refine CE_skip ?_
                  refine CE_seq ?_
                  refine CE_seq ?_
                  refine CE_reg ?_
                  refine EL_p (Pu_mv rfl) rfl ?_
                  refine EL_p (Pu_lss rfl rfl) rfl ?_
                  refine EL_p (Pu_mv rfl) rfl ?_
                  refine EL_gP rfl rfl (fun g81 => ?_) (fun g81 => ?_)
                  · refine EL_no rfl rfl rfl rfl ?_
                    refine EL_no rfl rfl rfl rfl ?_
                    refine EL_p (Pu_pt rfl rfl) rfl ?_
                    refine EL_nil ?_
                    refine CE_cond_t rfl ?_
                    refine CE_seq ?_
                    refine CE_reg ?_
                    refine EL_p (Pu_as rfl) rfl ?_
                    refine EL_nil ?_
                    refine CE_ret ?_
                    exact ⟨_, rfl, rfl, H1.below⟩
                  · refine EL_yes rfl rfl ?_
                    refine EL_p (Pu_mv rfl) rfl ?_
                    refine EL_yes rfl rfl ?_
                    refine EL_p (Pu_gtr rfl rfl) rfl ?_
                    refine EL_p (Pu_pf rfl rfl) rfl ?_
                    refine EL_nil ?_
                    refine CE_cP rfl (fun c84 => ?_) (fun c84 => ?_)
                    · refine CE_seq ?_
                      refine CE_reg ?_
                      refine EL_p (Pu_as rfl) rfl ?_
                      refine EL_nil ?_
                      refine CE_ret ?_
                      exact ⟨_, rfl, rfl, H1.below⟩
                    · obtain ⟨m, rfl⟩ : ∃ k : Nat, m = k := ⟨m.toNat, by omega⟩
                      refine CE_skip ?_
                      refine CE_seq ?_
                      refine CE_seq ?_
                      refine CE_reg ?_
                      refine EL_p (Pu_mv rfl) rfl ?_
                      refine EL_p (Pu_mv rfl) rfl ?_
                      refine EL_p (Pu_mv rfl) rfl ?_
                      refine EL_p (Pu_mv rfl) rfl ?_
                      refine EL_p (Pu_mv rfl) rfl ?_
                      refine EL_p (Pu_mv rfl) rfl ?_
                      refine EL_L rfl (Lo_call ca10 rfl ((shape10 H1 s0 s2 s3 hT hI (by omega)).mono (fun y w2 hh => ?_)))
                      obtain ⟨b10, hy, hsh, H2⟩ := hh
                      refine ⟨_, hy, ?_⟩
                      refine EL_p (Pu_not rfl) rfl ?_
                      refine EL_p (Pu_mv rfl) rfl ?_
                      refine EL_gB rfl rfl (fun g93 => ?_) (fun g93 => ?_)
                      · refine EL_no rfl rfl rfl rfl ?_
                        refine EL_no rfl rfl rfl rfl ?_
                        refine EL_no rfl rfl rfl rfl ?_
                        refine EL_no rfl rfl rfl rfl ?_
                        refine EL_no rfl rfl rfl rfl ?_
                        refine EL_no rfl rfl rfl rfl ?_
                        refine EL_p (Pu_pt rfl rfl) rfl ?_
                        refine EL_nil ?_
                        refine CE_cond_t rfl ?_
                        refine CE_seq ?_
                        refine CE_reg ?_
                        refine EL_p (Pu_as rfl) rfl ?_
                        refine EL_nil ?_
                        refine CE_ret ?_
                        exact ⟨_, rfl, rfl, H2.below⟩
                      · obtain ⟨e2, e3, e5, m0, ok⟩ := hsh (by simpa using g93)
                        subst e2 e3 e5
                        have hTr : ∀ i, i < l3 → 0 ≤ T i ∧ T i < l5 := fun i hi => ⟨(ok i hi).1, (ok i hi).2.1⟩
                        refine EL_yes rfl rfl ?_
                        refine EL_p (Pu_mv rfl) rfl ?_
                        refine EL_yes rfl rfl ?_
                        refine EL_p (Pu_mv rfl) rfl ?_
                        refine EL_yes rfl rfl ?_
                        refine EL_p (Pu_mv rfl) rfl ?_
                        refine EL_yes rfl rfl ?_
                        refine EL_p (Pu_mv rfl) rfl ?_
                        refine EL_yes rfl rfl ?_
                        refine EL_L rfl (Lo_call ca11 rfl ((ends11 H2 s0 s2 s5 s6 hT hTr (by omega) (by omega)).mono (fun y w3 hh => ?_)))
                        obtain ⟨b11, hy, hen, H3⟩ := hh
                        refine ⟨_, hy, ?_⟩
                        refine EL_yes rfl rfl ?_
                        refine EL_p (Pu_not rfl) rfl ?_
                        refine EL_p (Pu_pf rfl rfl) rfl ?_
                        refine EL_nil ?_
                        refine CE_cB rfl (fun c100 => ?_) (fun c100 => ?_)
                        · refine CE_seq ?_
                          refine CE_reg ?_
                          refine EL_p (Pu_as rfl) rfl ?_
                          refine EL_nil ?_
                          refine CE_ret ?_
                          exact ⟨_, rfl, rfl, H3.below⟩
                        · obtain ⟨e6, he⟩ := hen (by simpa using c100)
                          subst e6
                          refine CE_skip ?_
                          refine CE_seq ?_
                          refine CE_reg ?_
                          refine EL_p (Pu_mv rfl) rfl ?_
                          refine EL_L rfl (Lo_call ca12 rfl ((clone12 H3 s0 (by omega)).mono (fun y w4 hh => ?_)))
                          obtain ⟨z0, b0, hy, H4⟩ := hh
                          refine ⟨_, hy, ?_⟩
                          refine EL_p (Pu_as rfl) rfl ?_
                          refine EL_nil ?_
                          refine CE_seq ?_
                          refine CE_reg ?_
                          refine EL_p (Pu_mv rfl) rfl ?_
                          refine EL_L rfl (Lo_call ca13 rfl ((clone13 H4 s1 (by omega)).mono (fun y w5 hh => ?_)))
                          obtain ⟨z1, b1, hy, H5⟩ := hh
                          refine ⟨_, hy, ?_⟩
                          refine EL_p (Pu_as rfl) rfl ?_
                          refine EL_nil ?_
                          refine CE_seq ?_
                          refine CE_reg ?_
                          refine EL_p (Pu_mv rfl) rfl ?_
                          refine EL_L rfl (Lo_call ca14 rfl ((clone14 H5 s2 (by omega)).mono (fun y w6 hh => ?_)))
                          obtain ⟨z2, b2, hy, H6⟩ := hh
                          refine ⟨_, hy, ?_⟩
                          refine EL_p (Pu_as rfl) rfl ?_
                          refine EL_nil ?_
                          refine CE_seq ?_
                          refine CE_reg ?_
                          refine EL_p (Pu_mv rfl) rfl ?_
                          refine EL_L rfl (Lo_call ca14 rfl ((clone14 H6 s3 (by omega)).mono (fun y w7 hh => ?_)))
                          obtain ⟨z3, b3, hy, H7⟩ := hh
                          refine ⟨_, hy, ?_⟩
                          refine EL_p (Pu_as rfl) rfl ?_
                          refine EL_nil ?_
                          refine CE_seq ?_
                          refine CE_reg ?_
                          refine EL_p (Pu_mv rfl) rfl ?_
                          refine EL_L rfl (Lo_call ca15 rfl ((clone15 H7 s5 (by omega)).mono (fun y w8 hh => ?_)))
                          obtain ⟨z5, b5, hy, H8⟩ := hh
                          refine ⟨_, hy, ?_⟩
                          refine EL_p (Pu_as rfl) rfl ?_
                          refine EL_nil ?_
                          refine CE_seq ?_
                          refine CE_reg ?_
                          refine EL_p (Pu_mv rfl) rfl ?_
                          refine EL_L rfl (Lo_call ca13 rfl ((clone13 H8 s6 (by omega)).mono (fun y w9 hh => ?_)))
                          obtain ⟨z6, b6, hy, H9⟩ := hh
                          refine ⟨_, hy, ?_⟩
                          refine EL_p (Pu_as rfl) rfl ?_
                          refine EL_nil ?_
                          refine CE_seq ?_
                          refine CE_reg ?_
                          refine EL_p (Pu_mv rfl) rfl ?_
                          refine EL_p (Pu_mv rfl) rfl ?_
                          refine EL_p (Pu_mv rfl) rfl ?_
                          refine EL_p (Pu_mv rfl) rfl ?_
                          refine EL_p (Pu_mv rfl) rfl ?_
                          refine EL_p (Pu_mv rfl) rfl ?_
                          refine EL_p (Pu_mv rfl) rfl ?_
                          refine EL_L rfl (Lo_call ca16 rfl ((indexed16 H9 (List.mem_of_getElem? (i := 5) rfl) (by omega) rfl rfl rfl rfl rfl).mono (fun y w10 hh => ?_)))
                          obtain ⟨hb', ob, hy, H10⟩ := hh
                          refine ⟨_, hy, ?_⟩
                          obtain ⟨L, H11, hin, hE⟩ := H10.hist (fun p hp => (hTr p hp).1) (fun t ht => (he.rng t ht).1)
                          refine EL_p (Pu_as rfl) rfl ?_
                          refine EL_nil ?_
                          refine CE_seq ?_
                          refine CE_reg ?_
                          refine EL_p (Pu_mv rfl) rfl ?_
                          refine EL_L rfl (Lo_call ca17 rfl ((recovery17 H11 hin (mkH_ok (by omega) (by omega) (by omega) ok) hE (mkH_ends ok he)).mono (fun y w12 hh => ?_)))
                          obtain ⟨⟨rc, aca, st, rg, hy, hf⟩, H12⟩ := hh
                          refine ⟨_, hy, ?_⟩
                          refine EL_p (Pu_mv rfl) rfl ?_
                          refine EL_p (Pu_ext rfl rfl) rfl ?_
                          refine EL_p (Pu_ext rfl rfl) rfl ?_
                          refine EL_p (Pu_ext rfl rfl) rfl ?_
                          refine EL_p (Pu_ext rfl rfl) rfl ?_
                          refine EL_p (Pu_as rfl) rfl ?_
                          refine EL_p (Pu_as rfl) rfl ?_
                          refine EL_p (Pu_as rfl) rfl ?_
                          refine EL_p (Pu_as rfl) rfl ?_
                          refine EL_nil ?_
                          refine CE_seq ?_
                          refine CE_reg ?_
                          refine EL_p (Pu_mv rfl) rfl ?_
                          refine EL_p (Pu_not rfl) rfl ?_
                          refine EL_p (Pu_mv rfl) rfl ?_
                          refine EL_gB rfl rfl (fun g130 => ?_) (fun g130 => ?_)
                          · refine EL_no rfl rfl rfl rfl ?_
                            refine EL_p (Pu_pt rfl rfl) rfl ?_
                            refine EL_p (Pu_mv rfl) rfl ?_
                            refine EL_yes rfl rfl ?_
                            refine EL_p (Pu_mv rfl) rfl ?_
                            refine EL_yes rfl rfl ?_
                            refine EL_p (Pu_not rfl) rfl ?_
                            refine EL_yes rfl rfl ?_
                            refine EL_p (Pu_mv rfl) rfl ?_
                            refine EL_gB rfl rfl (fun g136 => ?_) (fun g136 => ?_)
                            · refine EL_no rfl rfl rfl rfl ?_
                              refine EL_yes rfl rfl ?_
                              refine EL_p (Pu_pt rfl rfl) rfl ?_
                              refine EL_p (Pu_pt rfl rfl) rfl ?_
                              refine EL_p (Pu_mv rfl) rfl ?_
                              refine EL_yes rfl rfl ?_
                              refine EL_p (Pu_mv rfl) rfl ?_
                              refine EL_yes rfl rfl ?_
                              refine EL_p (Pu_not rfl) rfl ?_
                              refine EL_yes rfl rfl ?_
                              refine EL_p (Pu_mv rfl) rfl ?_
                              refine EL_gB rfl rfl (fun g143 => ?_) (fun g143 => ?_)
                              · refine EL_no rfl rfl rfl rfl ?_
                                refine EL_yes rfl rfl ?_
                                refine EL_p (Pu_pt rfl rfl) rfl ?_
                                refine EL_p (Pu_pt rfl rfl) rfl ?_
                                refine EL_p (Pu_as rfl) rfl ?_
                                refine EL_nil ?_
                                refine CE_ret ?_
                                refine ⟨_, rfl, ?_, H12.below⟩
                                have hn := hf.nested
                                refine retB ?_
                                cases rc <;> cases aca <;> cases st <;> cases rg <;> first | rfl | exact absurd hn (by decide) | exact absurd g130 (by decide) | exact absurd g133 (by decide) | exact absurd g136 (by decide) | exact absurd g140 (by decide) | exact absurd g143 (by decide)
                              · refine EL_yes rfl rfl ?_
                                refine EL_p (Pu_mv rfl) rfl ?_
                                refine EL_yes rfl rfl ?_
                                refine EL_p (Pu_pf rfl rfl) rfl ?_
                                refine EL_p (Pu_pt rfl rfl) rfl ?_
                                refine EL_p (Pu_as rfl) rfl ?_
                                refine EL_nil ?_
                                refine CE_ret ?_
                                refine ⟨_, rfl, ?_, H12.below⟩
                                have hn := hf.nested
                                refine retB ?_
                                cases rc <;> cases aca <;> cases st <;> cases rg <;> first | rfl | exact absurd hn (by decide) | exact absurd g130 (by decide) | exact absurd g133 (by decide) | exact absurd g136 (by decide) | exact absurd g140 (by decide) | exact absurd g143 (by decide)
                            · refine EL_yes rfl rfl ?_
                              refine EL_p (Pu_mv rfl) rfl ?_
                              refine EL_yes rfl rfl ?_
                              refine EL_p (Pu_pf rfl rfl) rfl ?_
                              refine EL_p (Pu_pt rfl rfl) rfl ?_
                              refine EL_p (Pu_mv rfl) rfl ?_
                              refine EL_gB rfl rfl (fun g140 => ?_) (fun g140 => ?_)
                              · refine EL_yes rfl rfl ?_
                                refine EL_p (Pu_mv rfl) rfl ?_
                                refine EL_yes rfl rfl ?_
                                refine EL_p (Pu_not rfl) rfl ?_
                                refine EL_yes rfl rfl ?_
                                refine EL_p (Pu_mv rfl) rfl ?_
                                refine EL_gB rfl rfl (fun g143 => ?_) (fun g143 => ?_)
                                · refine EL_no rfl rfl rfl rfl ?_
                                  refine EL_yes rfl rfl ?_
                                  refine EL_p (Pu_pt rfl rfl) rfl ?_
                                  refine EL_p (Pu_pt rfl rfl) rfl ?_
                                  refine EL_p (Pu_as rfl) rfl ?_
                                  refine EL_nil ?_
                                  refine CE_ret ?_
                                  refine ⟨_, rfl, ?_, H12.below⟩
                                  have hn := hf.nested
                                  refine retB ?_
                                  cases rc <;> cases aca <;> cases st <;> cases rg <;> first | rfl | exact absurd hn (by decide) | exact absurd g130 (by decide) | exact absurd g133 (by decide) | exact absurd g136 (by decide) | exact absurd g140 (by decide) | exact absurd g143 (by decide)
                                · refine EL_yes rfl rfl ?_
                                  refine EL_p (Pu_mv rfl) rfl ?_
                                  refine EL_yes rfl rfl ?_
                                  refine EL_p (Pu_pf rfl rfl) rfl ?_
                                  refine EL_p (Pu_pt rfl rfl) rfl ?_
                                  refine EL_p (Pu_as rfl) rfl ?_
                                  refine EL_nil ?_
                                  refine CE_ret ?_
                                  refine ⟨_, rfl, ?_, H12.below⟩
                                  have hn := hf.nested
                                  refine retB ?_
                                  cases rc <;> cases aca <;> cases st <;> cases rg <;> first | rfl | exact absurd hn (by decide) | exact absurd g130 (by decide) | exact absurd g133 (by decide) | exact absurd g136 (by decide) | exact absurd g140 (by decide) | exact absurd g143 (by decide)
                              · refine EL_no rfl rfl rfl rfl ?_
                                refine EL_no rfl rfl rfl rfl ?_
                                refine EL_no rfl rfl rfl rfl ?_
                                refine EL_nu rfl rfl rfl ?_
                                refine EL_no rfl rfl rfl rfl ?_
                                refine EL_p (Pu_pf rfl rfl) rfl ?_
                                refine EL_p (Pu_as rfl) rfl ?_
                                refine EL_nil ?_
                                refine CE_ret ?_
                                refine ⟨_, rfl, ?_, H12.below⟩
                                have hn := hf.nested
                                refine retB ?_
                                cases rc <;> cases aca <;> cases st <;> cases rg <;> first | rfl | exact absurd hn (by decide) | exact absurd g130 (by decide) | exact absurd g133 (by decide) | exact absurd g136 (by decide) | exact absurd g140 (by decide) | exact absurd g143 (by decide)
                          · refine EL_yes rfl rfl ?_
                            refine EL_p (Pu_mv rfl) rfl ?_
                            refine EL_p (Pu_pf rfl rfl) rfl ?_
                            refine EL_p (Pu_mv rfl) rfl ?_
                            refine EL_gB rfl rfl (fun g133 => ?_) (fun g133 => ?_)
                            · refine EL_yes rfl rfl ?_
                              refine EL_p (Pu_mv rfl) rfl ?_
                              refine EL_yes rfl rfl ?_
                              refine EL_p (Pu_not rfl) rfl ?_
                              refine EL_yes rfl rfl ?_
                              refine EL_p (Pu_mv rfl) rfl ?_
                              refine EL_gB rfl rfl (fun g136 => ?_) (fun g136 => ?_)
                              · refine EL_no rfl rfl rfl rfl ?_
                                refine EL_yes rfl rfl ?_
                                refine EL_p (Pu_pt rfl rfl) rfl ?_
                                refine EL_p (Pu_pt rfl rfl) rfl ?_
                                refine EL_p (Pu_mv rfl) rfl ?_
                                refine EL_yes rfl rfl ?_
                                refine EL_p (Pu_mv rfl) rfl ?_
                                refine EL_yes rfl rfl ?_
                                refine EL_p (Pu_not rfl) rfl ?_
                                refine EL_yes rfl rfl ?_
                                refine EL_p (Pu_mv rfl) rfl ?_
                                refine EL_gB rfl rfl (fun g143 => ?_) (fun g143 => ?_)
                                · refine EL_no rfl rfl rfl rfl ?_
                                  refine EL_yes rfl rfl ?_
                                  refine EL_p (Pu_pt rfl rfl) rfl ?_
                                  refine EL_p (Pu_pt rfl rfl) rfl ?_
                                  refine EL_p (Pu_as rfl) rfl ?_
                                  refine EL_nil ?_
                                  refine CE_ret ?_
                                  refine ⟨_, rfl, ?_, H12.below⟩
                                  have hn := hf.nested
                                  refine retB ?_
                                  cases rc <;> cases aca <;> cases st <;> cases rg <;> first | rfl | exact absurd hn (by decide) | exact absurd g130 (by decide) | exact absurd g133 (by decide) | exact absurd g136 (by decide) | exact absurd g140 (by decide) | exact absurd g143 (by decide)
                                · refine EL_yes rfl rfl ?_
                                  refine EL_p (Pu_mv rfl) rfl ?_
                                  refine EL_yes rfl rfl ?_
                                  refine EL_p (Pu_pf rfl rfl) rfl ?_
                                  refine EL_p (Pu_pt rfl rfl) rfl ?_
                                  refine EL_p (Pu_as rfl) rfl ?_
                                  refine EL_nil ?_
                                  refine CE_ret ?_
                                  refine ⟨_, rfl, ?_, H12.below⟩
                                  have hn := hf.nested
                                  refine retB ?_
                                  cases rc <;> cases aca <;> cases st <;> cases rg <;> first | rfl | exact absurd hn (by decide) | exact absurd g130 (by decide) | exact absurd g133 (by decide) | exact absurd g136 (by decide) | exact absurd g140 (by decide) | exact absurd g143 (by decide)
                              · refine EL_yes rfl rfl ?_
                                refine EL_p (Pu_mv rfl) rfl ?_
                                refine EL_yes rfl rfl ?_
                                refine EL_p (Pu_pf rfl rfl) rfl ?_
                                refine EL_p (Pu_pt rfl rfl) rfl ?_
                                refine EL_p (Pu_mv rfl) rfl ?_
                                refine EL_gB rfl rfl (fun g140 => ?_) (fun g140 => ?_)
                                · refine EL_yes rfl rfl ?_
                                  refine EL_p (Pu_mv rfl) rfl ?_
                                  refine EL_yes rfl rfl ?_
                                  refine EL_p (Pu_not rfl) rfl ?_
                                  refine EL_yes rfl rfl ?_
                                  refine EL_p (Pu_mv rfl) rfl ?_
                                  refine EL_gB rfl rfl (fun g143 => ?_) (fun g143 => ?_)
                                  · refine EL_no rfl rfl rfl rfl ?_
                                    refine EL_yes rfl rfl ?_
                                    refine EL_p (Pu_pt rfl rfl) rfl ?_
                                    refine EL_p (Pu_pt rfl rfl) rfl ?_
                                    refine EL_p (Pu_as rfl) rfl ?_
                                    refine EL_nil ?_
                                    refine CE_ret ?_
                                    refine ⟨_, rfl, ?_, H12.below⟩
                                    have hn := hf.nested
                                    refine retB ?_
                                    cases rc <;> cases aca <;> cases st <;> cases rg <;> first | rfl | exact absurd hn (by decide) | exact absurd g130 (by decide) | exact absurd g133 (by decide) | exact absurd g136 (by decide) | exact absurd g140 (by decide) | exact absurd g143 (by decide)
                                  · refine EL_yes rfl rfl ?_
                                    refine EL_p (Pu_mv rfl) rfl ?_
                                    refine EL_yes rfl rfl ?_
                                    refine EL_p (Pu_pf rfl rfl) rfl ?_
                                    refine EL_p (Pu_pt rfl rfl) rfl ?_
                                    refine EL_p (Pu_as rfl) rfl ?_
                                    refine EL_nil ?_
                                    refine CE_ret ?_
                                    refine ⟨_, rfl, ?_, H12.below⟩
                                    have hn := hf.nested
                                    refine retB ?_
                                    cases rc <;> cases aca <;> cases st <;> cases rg <;> first | rfl | exact absurd hn (by decide) | exact absurd g130 (by decide) | exact absurd g133 (by decide) | exact absurd g136 (by decide) | exact absurd g140 (by decide) | exact absurd g143 (by decide)
                                · refine EL_no rfl rfl rfl rfl ?_
                                  refine EL_no rfl rfl rfl rfl ?_
                                  refine EL_no rfl rfl rfl rfl ?_
                                  refine EL_nu rfl rfl rfl ?_
                                  refine EL_no rfl rfl rfl rfl ?_
                                  refine EL_p (Pu_pf rfl rfl) rfl ?_
                                  refine EL_p (Pu_as rfl) rfl ?_
                                  refine EL_nil ?_
                                  refine CE_ret ?_
                                  refine ⟨_, rfl, ?_, H12.below⟩
                                  have hn := hf.nested
                                  refine retB ?_
                                  cases rc <;> cases aca <;> cases st <;> cases rg <;> first | rfl | exact absurd hn (by decide) | exact absurd g130 (by decide) | exact absurd g133 (by decide) | exact absurd g136 (by decide) | exact absurd g140 (by decide) | exact absurd g143 (by decide)
                            · refine EL_no rfl rfl rfl rfl ?_
                              refine EL_no rfl rfl rfl rfl ?_
                              refine EL_no rfl rfl rfl rfl ?_
                              refine EL_nu rfl rfl rfl ?_
                              refine EL_no rfl rfl rfl rfl ?_
                              refine EL_p (Pu_pf rfl rfl) rfl ?_
                              refine EL_p (Pu_mv rfl) rfl ?_
                              refine EL_no rfl rfl rfl rfl ?_
                              refine EL_no rfl rfl rfl rfl ?_
                              refine EL_no rfl rfl rfl rfl ?_
                              refine EL_nu rfl rfl rfl ?_
                              refine EL_no rfl rfl rfl rfl ?_
                              refine EL_p (Pu_pf rfl rfl) rfl ?_
                              refine EL_p (Pu_as rfl) rfl ?_
                              refine EL_nil ?_
                              refine CE_ret ?_
                              refine ⟨_, rfl, ?_, H12.below⟩
                              have hn := hf.nested
                              refine retB ?_
                              cases rc <;> cases aca <;> cases st <;> cases rg <;> first | rfl | exact absurd hn (by decide) | exact absurd g130 (by decide) | exact absurd g133 (by decide) | exact absurd g136 (by decide) | exact absurd g140 (by decide) | exact absurd g143 (by decide)

set_option maxHeartbeats 1000000 in
theorem law5 {w : World} {a0 a1 a2 a3 a5 a6 : Option Addr} {l0 l1 l2 l3 l5 l6 c0 c1 c2 c3 c5 c6 : Nat} {A X T I E : Nat → Int} {B : Nat → Bool} {m : Int} (ar : Args w a0 a1 a2 a3 a5 a6 l0 l1 l2 l3 l5 l6 A X T I E B) :
    Calls Try.prog 5 #[.slice a0 l0 c0, .slice a1 l1 c1, .slice a2 l2 c2, .slice a3 l3 c3, .int .i64 m, .slice a5 l5 c5, .slice a6 l6 c6] w fun x w' => x = .returned (.bool true) ∧ Below w.heap.size w w' := by
  have H := HP.start w
  obtain ⟨s0, s1, s2, s3, s5, s6, hT, hI⟩ := ar
  refine calls_CE Try.func5 rfl Try.ntmps5 rfl rfl ?_
  refine CE_seq ?_
  refine CE_reg ?_
  refine EL_p (Pu_as rfl) rfl ?_
  refine EL_nil ?_
  refine CE_seq ?_
  refine CE_seq ?_
  refine CE_reg ?_
  refine EL_p (Pu_mv rfl) rfl ?_
  refine EL_p (Pu_mv rfl) rfl ?_
  refine EL_p (Pu_mv rfl) rfl ?_
  refine EL_p (Pu_mv rfl) rfl ?_
  refine EL_p (Pu_mv rfl) rfl ?_
  refine EL_p (Pu_mv rfl) rfl ?_
  refine EL_p (Pu_mv rfl) rfl ?_
  refine EL_L rfl (Lo_call ca20 rfl ((bytes20 H).mono (fun y w1 hh => ?_)))
  obtain ⟨⟨bb, hy, hbb⟩, H1⟩ := hh
  refine ⟨_, hy, ?_⟩
  refine EL_p (Pu_not rfl) rfl ?_
  refine EL_nil ?_
  refine CE_cB rfl (fun c28 => ?_) (fun c28 => ?_)
  · refine CE_seq ?_
    refine CE_reg ?_
    refine EL_p (Pu_as rfl) rfl ?_
    refine EL_nil ?_
    refine CE_ret ?_
    exact ⟨_, rfl, rfl, H1.below⟩
  · have hb := hbb c28
    refine CE_skip ?_
    refine CE_seq ?_
    refine CE_seq ?_
    refine CE_reg ?_
    refine EL_p (Pu_mv rfl) rfl ?_
    refine EL_p (Pu_len rfl sl22 rfl) rfl ?_
    refine EL_p (Pu_mv rfl) rfl ?_
    refine EL_p (Pu_len rfl sl23 rfl) rfl ?_
    refine EL_p (Pu_mul rfl rfl (w64 (by omega))) rfl ?_
    refine EL_p (Pu_add rfl rfl (w64 (by omega))) rfl ?_
    refine EL_p (Pu_mv rfl) rfl ?_
    refine EL_p (Pu_len rfl sl24 rfl) rfl ?_
    refine EL_p (Pu_mul rfl rfl (w64 (by omega))) rfl ?_
    refine EL_p (Pu_add rfl rfl (w64 (by omega))) rfl ?_
    refine EL_p (Pu_mv rfl) rfl ?_
    refine EL_p (Pu_len rfl sl24 rfl) rfl ?_
    refine EL_p (Pu_mul rfl rfl (w64 (by omega))) rfl ?_
    refine EL_p (Pu_add rfl rfl (w64 (by omega))) rfl ?_
    refine EL_p (Pu_mv rfl) rfl ?_
    refine EL_p (Pu_len rfl sl25 rfl) rfl ?_
    refine EL_p (Pu_add rfl rfl (w64 (by omega))) rfl ?_
    refine EL_p (Pu_mv rfl) rfl ?_
    refine EL_p (Pu_len rfl sl23 rfl) rfl ?_
    refine EL_p (Pu_mul rfl rfl (w64 (by omega))) rfl ?_
    refine EL_p (Pu_add rfl rfl (w64 (by omega))) rfl ?_
    refine EL_p (Pu_gtr rfl rfl) rfl ?_
    refine EL_nil ?_
    refine CE_cP rfl (fun c50 => ?_) (fun c50 => ?_)
    · refine CE_seq ?_
      refine CE_reg ?_
      refine EL_p (Pu_as rfl) rfl ?_
      refine EL_nil ?_
      refine CE_ret ?_
      exact ⟨_, rfl, rfl, H1.below⟩
    · refine CE_skip ?_
      refine CE_seq ?_
      refine CE_seq ?_
      refine CE_reg ?_
      refine EL_p (Pu_mv rfl) rfl ?_
      refine EL_p (Pu_len rfl sl22 rfl) rfl ?_
      refine EL_p (Pu_gtr rfl rfl) rfl ?_
      refine EL_p (Pu_mv rfl) rfl ?_
      refine EL_gP rfl rfl (fun g54 => ?_) (fun g54 => ?_)
      · refine EL_no rfl rfl rfl rfl ?_
        refine EL_no rfl rfl rfl rfl ?_
        refine EL_no rfl rfl rfl rfl ?_
        refine EL_p (Pu_pt rfl rfl) rfl ?_
        refine EL_p (Pu_mv rfl) rfl ?_
        refine EL_no rfl rfl rfl rfl ?_
        refine EL_no rfl rfl rfl rfl ?_
        refine EL_no rfl rfl rfl rfl ?_
        refine EL_p (Pu_pt rfl rfl) rfl ?_
        refine EL_p (Pu_mv rfl) rfl ?_
        refine EL_no rfl rfl rfl rfl ?_
        refine EL_no rfl rfl rfl rfl ?_
        refine EL_no rfl rfl rfl rfl ?_
        refine EL_p (Pu_pt rfl rfl) rfl ?_
        refine EL_p (Pu_mv rfl) rfl ?_
        refine EL_no rfl rfl rfl rfl ?_
        refine EL_no rfl rfl rfl rfl ?_
        refine EL_no rfl rfl rfl rfl ?_
        refine EL_p (Pu_pt rfl rfl) rfl ?_
        refine EL_p (Pu_mv rfl) rfl ?_
        refine EL_no rfl rfl rfl rfl ?_
        refine EL_no rfl rfl rfl rfl ?_
        refine EL_no rfl rfl rfl rfl ?_
        refine EL_p (Pu_pt rfl rfl) rfl ?_
        refine EL_nil ?_
        refine CE_cond_t rfl ?_
        refine CE_seq ?_
        refine CE_reg ?_
        refine EL_p (Pu_as rfl) rfl ?_
        refine EL_nil ?_
        refine CE_ret ?_
        exact ⟨_, rfl, rfl, H1.below⟩
      · refine EL_yes rfl rfl ?_
        refine EL_p (Pu_mv rfl) rfl ?_
        refine EL_yes rfl rfl ?_
        refine EL_p (Pu_len rfl sl23 rfl) rfl ?_
        refine EL_yes rfl rfl ?_
        refine EL_p (Pu_gtr rfl rfl) rfl ?_
        refine EL_p (Pu_pf rfl rfl) rfl ?_
        refine EL_p (Pu_mv rfl) rfl ?_
        refine EL_gP rfl rfl (fun g59 => ?_) (fun g59 => ?_)
        · refine EL_no rfl rfl rfl rfl ?_
          refine EL_no rfl rfl rfl rfl ?_
          refine EL_no rfl rfl rfl rfl ?_
          refine EL_p (Pu_pt rfl rfl) rfl ?_
          refine EL_p (Pu_mv rfl) rfl ?_
          refine EL_no rfl rfl rfl rfl ?_
          refine EL_no rfl rfl rfl rfl ?_
          refine EL_no rfl rfl rfl rfl ?_
          refine EL_p (Pu_pt rfl rfl) rfl ?_
          refine EL_p (Pu_mv rfl) rfl ?_
          refine EL_no rfl rfl rfl rfl ?_
          refine EL_no rfl rfl rfl rfl ?_
          refine EL_no rfl rfl rfl rfl ?_
          refine EL_p (Pu_pt rfl rfl) rfl ?_
          refine EL_p (Pu_mv rfl) rfl ?_
          refine EL_no rfl rfl rfl rfl ?_
          refine EL_no rfl rfl rfl rfl ?_
          refine EL_no rfl rfl rfl rfl ?_
          refine EL_p (Pu_pt rfl rfl) rfl ?_
          refine EL_nil ?_
          refine CE_cond_t rfl ?_
          refine CE_seq ?_
          refine CE_reg ?_
          refine EL_p (Pu_as rfl) rfl ?_
          refine EL_nil ?_
          refine CE_ret ?_
          exact ⟨_, rfl, rfl, H1.below⟩
        · refine EL_yes rfl rfl ?_
          refine EL_p (Pu_mv rfl) rfl ?_
          refine EL_yes rfl rfl ?_
          refine EL_p (Pu_len rfl sl24 rfl) rfl ?_
          refine EL_yes rfl rfl ?_
          refine EL_p (Pu_gtr rfl rfl) rfl ?_
          refine EL_p (Pu_pf rfl rfl) rfl ?_
          refine EL_p (Pu_mv rfl) rfl ?_
          refine EL_gP rfl rfl (fun g64 => ?_) (fun g64 => ?_)
          · refine EL_no rfl rfl rfl rfl ?_
            refine EL_no rfl rfl rfl rfl ?_
            refine EL_no rfl rfl rfl rfl ?_
            refine EL_p (Pu_pt rfl rfl) rfl ?_
            refine EL_p (Pu_mv rfl) rfl ?_
            refine EL_no rfl rfl rfl rfl ?_
            refine EL_no rfl rfl rfl rfl ?_
            refine EL_no rfl rfl rfl rfl ?_
            refine EL_p (Pu_pt rfl rfl) rfl ?_
            refine EL_p (Pu_mv rfl) rfl ?_
            refine EL_no rfl rfl rfl rfl ?_
            refine EL_no rfl rfl rfl rfl ?_
            refine EL_no rfl rfl rfl rfl ?_
            refine EL_p (Pu_pt rfl rfl) rfl ?_
            refine EL_nil ?_
            refine CE_cond_t rfl ?_
            refine CE_seq ?_
            refine CE_reg ?_
            refine EL_p (Pu_as rfl) rfl ?_
            refine EL_nil ?_
            refine CE_ret ?_
            exact ⟨_, rfl, rfl, H1.below⟩
          · refine EL_yes rfl rfl ?_
            refine EL_p (Pu_mv rfl) rfl ?_
            refine EL_yes rfl rfl ?_
            refine EL_p (Pu_len rfl sl24 rfl) rfl ?_
            refine EL_yes rfl rfl ?_
            refine EL_p (Pu_gtr rfl rfl) rfl ?_
            refine EL_p (Pu_pf rfl rfl) rfl ?_
            refine EL_p (Pu_mv rfl) rfl ?_
            refine EL_gP rfl rfl (fun g69 => ?_) (fun g69 => ?_)
            · refine EL_no rfl rfl rfl rfl ?_
              refine EL_no rfl rfl rfl rfl ?_
              refine EL_no rfl rfl rfl rfl ?_
              refine EL_p (Pu_pt rfl rfl) rfl ?_
              refine EL_p (Pu_mv rfl) rfl ?_
              refine EL_no rfl rfl rfl rfl ?_
              refine EL_no rfl rfl rfl rfl ?_
              refine EL_no rfl rfl rfl rfl ?_
              refine EL_p (Pu_pt rfl rfl) rfl ?_
              refine EL_nil ?_
              refine CE_cond_t rfl ?_
              refine CE_seq ?_
              refine CE_reg ?_
              refine EL_p (Pu_as rfl) rfl ?_
              refine EL_nil ?_
              refine CE_ret ?_
              exact ⟨_, rfl, rfl, H1.below⟩
            · refine EL_yes rfl rfl ?_
              refine EL_p (Pu_mv rfl) rfl ?_
              refine EL_yes rfl rfl ?_
              refine EL_p (Pu_len rfl sl25 rfl) rfl ?_
              refine EL_yes rfl rfl ?_
              refine EL_p (Pu_gtr rfl rfl) rfl ?_
              refine EL_p (Pu_pf rfl rfl) rfl ?_
              refine EL_p (Pu_mv rfl) rfl ?_
              refine EL_gP rfl rfl (fun g74 => ?_) (fun g74 => ?_)
              · refine EL_no rfl rfl rfl rfl ?_
                refine EL_no rfl rfl rfl rfl ?_
                refine EL_no rfl rfl rfl rfl ?_
                refine EL_p (Pu_pt rfl rfl) rfl ?_
                refine EL_nil ?_
                refine CE_cond_t rfl ?_
                refine CE_seq ?_
                refine CE_reg ?_
                refine EL_p (Pu_as rfl) rfl ?_
                refine EL_nil ?_
                refine CE_ret ?_
                exact ⟨_, rfl, rfl, H1.below⟩
              · refine EL_yes rfl rfl ?_
                refine EL_p (Pu_mv rfl) rfl ?_
                refine EL_yes rfl rfl ?_
                refine EL_p (Pu_len rfl sl23 rfl) rfl ?_
                refine EL_yes rfl rfl ?_
                refine EL_p (Pu_gtr rfl rfl) rfl ?_
                refine EL_p (Pu_pf rfl rfl) rfl ?_
                refine EL_nil ?_
                refine CE_cP rfl (fun c78 => ?_) (fun c78 => ?_)
                · refine CE_seq ?_
                  refine CE_reg ?_
                  refine EL_p (Pu_as rfl) rfl ?_
                  refine EL_nil ?_
                  refine CE_ret ?_
                  exact ⟨_, rfl, rfl, H1.below⟩
                · refine CE_skip ?_
                  refine CE_seq ?_
                  refine CE_seq ?_
                  refine CE_reg ?_
                  refine EL_p (Pu_mv rfl) rfl ?_
                  refine EL_p (Pu_lss rfl rfl) rfl ?_
                  refine EL_p (Pu_mv rfl) rfl ?_
                  refine EL_gP rfl rfl (fun g81 => ?_) (fun g81 => ?_)
                  · refine EL_no rfl rfl rfl rfl ?_
                    refine EL_no rfl rfl rfl rfl ?_
                    refine EL_p (Pu_pt rfl rfl) rfl ?_
                    refine EL_nil ?_
                    refine CE_cond_t rfl ?_
                    refine CE_seq ?_
                    refine CE_reg ?_
                    refine EL_p (Pu_as rfl) rfl ?_
                    refine EL_nil ?_
                    refine CE_ret ?_
                    exact ⟨_, rfl, rfl, H1.below⟩
                  · refine EL_yes rfl rfl ?_
                    refine EL_p (Pu_mv rfl) rfl ?_
                    refine EL_yes rfl rfl ?_
                    refine EL_p (Pu_gtr rfl rfl) rfl ?_
                    refine EL_p (Pu_pf rfl rfl) rfl ?_
                    refine EL_nil ?_
                    refine CE_cP rfl (fun c84 => ?_) (fun c84 => ?_)
                    · refine CE_seq ?_
                      refine CE_reg ?_
                      refine EL_p (Pu_as rfl) rfl ?_
                      refine EL_nil ?_
                      refine CE_ret ?_
                      exact ⟨_, rfl, rfl, H1.below⟩
                    · obtain ⟨m, rfl⟩ : ∃ k : Nat, m = k := ⟨m.toNat, by omega⟩
                      refine CE_skip ?_
                      refine CE_seq ?_
                      refine CE_seq ?_
                      refine CE_reg ?_
                      refine EL_p (Pu_mv rfl) rfl ?_
                      refine EL_p (Pu_mv rfl) rfl ?_
                      refine EL_p (Pu_mv rfl) rfl ?_
                      refine EL_p (Pu_mv rfl) rfl ?_
                      refine EL_p (Pu_mv rfl) rfl ?_
                      refine EL_p (Pu_mv rfl) rfl ?_
                      refine EL_L rfl (Lo_call ca10 rfl ((shape10 H1 s0 s2 s3 hT hI (by omega)).mono (fun y w2 hh => ?_)))
                      obtain ⟨b10, hy, hsh, H2⟩ := hh
                      refine ⟨_, hy, ?_⟩
                      refine EL_p (Pu_not rfl) rfl ?_
                      refine EL_p (Pu_mv rfl) rfl ?_
                      refine EL_gB rfl rfl (fun g93 => ?_) (fun g93 => ?_)
                      · refine EL_no rfl rfl rfl rfl ?_
                        refine EL_no rfl rfl rfl rfl ?_
                        refine EL_no rfl rfl rfl rfl ?_
                        refine EL_no rfl rfl rfl rfl ?_
                        refine EL_no rfl rfl rfl rfl ?_
                        refine EL_no rfl rfl rfl rfl ?_
                        refine EL_p (Pu_pt rfl rfl) rfl ?_
                        refine EL_nil ?_
                        refine CE_cond_t rfl ?_
                        refine CE_seq ?_
                        refine CE_reg ?_
                        refine EL_p (Pu_as rfl) rfl ?_
                        refine EL_nil ?_
                        refine CE_ret ?_
                        exact ⟨_, rfl, rfl, H2.below⟩
                      · obtain ⟨e2, e3, e5, m0, ok⟩ := hsh (by simpa using g93)
                        subst e2 e3 e5
                        have hTr : ∀ i, i < l3 → 0 ≤ T i ∧ T i < l5 := fun i hi => ⟨(ok i hi).1, (ok i hi).2.1⟩
                        refine EL_yes rfl rfl ?_
                        refine EL_p (Pu_mv rfl) rfl ?_
                        refine EL_yes rfl rfl ?_
                        refine EL_p (Pu_mv rfl) rfl ?_
                        refine EL_yes rfl rfl ?_
                        refine EL_p (Pu_mv rfl) rfl ?_
                        refine EL_yes rfl rfl ?_
                        refine EL_p (Pu_mv rfl) rfl ?_
                        refine EL_yes rfl rfl ?_
                        refine EL_L rfl (Lo_call ca11 rfl ((ends11 H2 s0 s2 s5 s6 hT hTr (by omega) (by omega)).mono (fun y w3 hh => ?_)))
                        obtain ⟨b11, hy, hen, H3⟩ := hh
                        refine ⟨_, hy, ?_⟩
                        refine EL_yes rfl rfl ?_
                        refine EL_p (Pu_not rfl) rfl ?_
                        refine EL_p (Pu_pf rfl rfl) rfl ?_
                        refine EL_nil ?_
                        refine CE_cB rfl (fun c100 => ?_) (fun c100 => ?_)
                        · refine CE_seq ?_
                          refine CE_reg ?_
                          refine EL_p (Pu_as rfl) rfl ?_
                          refine EL_nil ?_
                          refine CE_ret ?_
                          exact ⟨_, rfl, rfl, H3.below⟩
                        · obtain ⟨e6, he⟩ := hen (by simpa using c100)
                          subst e6
                          refine CE_skip ?_
                          refine CE_seq ?_
                          refine CE_seq ?_
                          refine CE_reg ?_
                          refine EL_p (Pu_mv rfl) rfl ?_
                          refine EL_p (Pu_mv rfl) rfl ?_
                          refine EL_L rfl (Lo_call ca21 rfl ((serial21 H3 s2 s6 hTr (by omega)).mono (fun y w13 hh => ?_)))
                          obtain ⟨b21, hy, hse, H13⟩ := hh
                          refine ⟨_, hy, ?_⟩
                          refine EL_p (Pu_not rfl) rfl ?_
                          refine EL_nil ?_
                          refine CE_cB rfl (fun c104 => ?_) (fun c104 => ?_)
                          · refine CE_seq ?_
                            refine CE_reg ?_
                            refine EL_p (Pu_as rfl) rfl ?_
                            refine EL_nil ?_
                            refine CE_ret ?_
                            exact ⟨_, rfl, rfl, H13.below⟩
                          · have hse := hse (by simpa using c104)
                            refine CE_skip ?_
                            refine CE_seq ?_
                            refine CE_reg ?_
                            refine EL_p (Pu_mv rfl) rfl ?_
                            refine EL_L rfl (Lo_call ca12 rfl ((clone12 H13 s0 (by omega)).mono (fun y w4 hh => ?_)))
                            obtain ⟨z0, b0, hy, H4⟩ := hh
                            refine ⟨_, hy, ?_⟩
                            refine EL_p (Pu_as rfl) rfl ?_
                            refine EL_nil ?_
                            refine CE_seq ?_
                            refine CE_reg ?_
                            refine EL_p (Pu_mv rfl) rfl ?_
                            refine EL_L rfl (Lo_call ca13 rfl ((clone13 H4 s1 (by omega)).mono (fun y w5 hh => ?_)))
                            obtain ⟨z1, b1, hy, H5⟩ := hh
                            refine ⟨_, hy, ?_⟩
                            refine EL_p (Pu_as rfl) rfl ?_
                            refine EL_nil ?_
                            refine CE_seq ?_
                            refine CE_reg ?_
                            refine EL_p (Pu_mv rfl) rfl ?_
                            refine EL_L rfl (Lo_call ca14 rfl ((clone14 H5 s2 (by omega)).mono (fun y w6 hh => ?_)))
                            obtain ⟨z2, b2, hy, H6⟩ := hh
                            refine ⟨_, hy, ?_⟩
                            refine EL_p (Pu_as rfl) rfl ?_
                            refine EL_nil ?_
                            refine CE_seq ?_
                            refine CE_reg ?_
                            refine EL_p (Pu_mv rfl) rfl ?_
                            refine EL_L rfl (Lo_call ca14 rfl ((clone14 H6 s3 (by omega)).mono (fun y w7 hh => ?_)))
                            obtain ⟨z3, b3, hy, H7⟩ := hh
                            refine ⟨_, hy, ?_⟩
                            refine EL_p (Pu_as rfl) rfl ?_
                            refine EL_nil ?_
                            refine CE_seq ?_
                            refine CE_reg ?_
                            refine EL_p (Pu_mv rfl) rfl ?_
                            refine EL_L rfl (Lo_call ca15 rfl ((clone15 H7 s5 (by omega)).mono (fun y w8 hh => ?_)))
                            obtain ⟨z5, b5, hy, H8⟩ := hh
                            refine ⟨_, hy, ?_⟩
                            refine EL_p (Pu_as rfl) rfl ?_
                            refine EL_nil ?_
                            refine CE_seq ?_
                            refine CE_reg ?_
                            refine EL_p (Pu_mv rfl) rfl ?_
                            refine EL_L rfl (Lo_call ca13 rfl ((clone13 H8 s6 (by omega)).mono (fun y w9 hh => ?_)))
                            obtain ⟨z6, b6, hy, H9⟩ := hh
                            refine ⟨_, hy, ?_⟩
                            refine EL_p (Pu_as rfl) rfl ?_
                            refine EL_nil ?_
                            refine CE_seq ?_
                            refine CE_reg ?_
                            refine EL_p (Pu_mv rfl) rfl ?_
                            refine EL_p (Pu_mv rfl) rfl ?_
                            refine EL_p (Pu_mv rfl) rfl ?_
                            refine EL_p (Pu_mv rfl) rfl ?_
                            refine EL_p (Pu_mv rfl) rfl ?_
                            refine EL_p (Pu_mv rfl) rfl ?_
                            refine EL_p (Pu_mv rfl) rfl ?_
                            refine EL_L rfl (Lo_call ca16 rfl ((indexed16 H9 (List.mem_of_getElem? (i := 5) rfl) (by omega) rfl rfl rfl rfl rfl).mono (fun y w10 hh => ?_)))
                            obtain ⟨hb', ob, hy, H10⟩ := hh
                            refine ⟨_, hy, ?_⟩
                            obtain ⟨L, H11, hin, hE⟩ := H10.hist (fun p hp => (hTr p hp).1) (fun t ht => (he.rng t ht).1)
                            refine EL_p (Pu_as rfl) rfl ?_
                            refine EL_nil ?_
                            refine CE_seq ?_
                            refine CE_reg ?_
                            refine EL_p (Pu_mv rfl) rfl ?_
                            refine EL_L rfl (Lo_call ca17 rfl ((recovery17 H11 hin (mkH_ok (by omega) (by omega) (by omega) ok) hE (mkH_ends ok he)).mono (fun y w12 hh => ?_)))
                            obtain ⟨⟨rc, aca, st, rg, hy, hf⟩, H12⟩ := hh
                            refine ⟨_, hy, ?_⟩
                            refine EL_p (Pu_mv rfl) rfl ?_
                            refine EL_p (Pu_ext rfl rfl) rfl ?_
                            refine EL_p (Pu_ext rfl rfl) rfl ?_
                            refine EL_p (Pu_ext rfl rfl) rfl ?_
                            refine EL_p (Pu_ext rfl rfl) rfl ?_
                            refine EL_p (Pu_as rfl) rfl ?_
                            refine EL_p (Pu_as rfl) rfl ?_
                            refine EL_p (Pu_as rfl) rfl ?_
                            refine EL_p (Pu_as rfl) rfl ?_
                            refine EL_nil ?_
                            refine CE_seq ?_
                            refine CE_reg ?_
                            refine EL_p (Pu_mv rfl) rfl ?_
                            refine EL_p (Pu_mv rfl) rfl ?_
                            refine EL_gB rfl rfl (fun g133 => ?_) (fun g133 => ?_)
                            · refine EL_yes rfl rfl ?_
                              refine EL_p (Pu_mv rfl) rfl ?_
                              refine EL_p (Pu_pt rfl rfl) rfl ?_
                              refine EL_p (Pu_mv rfl) rfl ?_
                              refine EL_gB rfl rfl (fun g136 => ?_) (fun g136 => ?_)
                              · refine EL_yes rfl rfl ?_
                                refine EL_p (Pu_mv rfl) rfl ?_
                                refine EL_p (Pu_pt rfl rfl) rfl ?_
                                refine EL_p (Pu_mv rfl) rfl ?_
                                refine EL_gB rfl rfl (fun g139 => ?_) (fun g139 => ?_)
                                · refine EL_yes rfl rfl ?_
                                  refine EL_p (Pu_mv rfl) rfl ?_
                                  refine EL_p (Pu_pt rfl rfl) rfl ?_
                                  refine EL_p (Pu_as rfl) rfl ?_
                                  refine EL_nil ?_
                                  refine CE_ret ?_
                                  refine ⟨_, rfl, ?_, H12.below⟩
                                  have hn := hf.serial (fun p q hp hq hne => by
                                    have h1 := hse p q hp hq (fun hh => hne (congrArg Int.toNat hh))
                                    have h2 := (he.rng (T q).toNat (by have := hTr q (Nat.lt_trans hq hp); omega)).1
                                    show (E (T q).toNat).toNat < p
                                    omega)
                                  refine retB ?_
                                  cases rc <;> cases aca <;> cases st <;> cases rg <;> first | rfl | exact absurd hn (by decide) | exact absurd g133 (by decide) | exact absurd g136 (by decide) | exact absurd g139 (by decide)
                                · refine EL_no rfl rfl rfl rfl ?_
                                  refine EL_p (Pu_pf rfl rfl) rfl ?_
                                  refine EL_p (Pu_as rfl) rfl ?_
                                  refine EL_nil ?_
                                  refine CE_ret ?_
                                  refine ⟨_, rfl, ?_, H12.below⟩
                                  have hn := hf.serial (fun p q hp hq hne => by
                                    have h1 := hse p q hp hq (fun hh => hne (congrArg Int.toNat hh))
                                    have h2 := (he.rng (T q).toNat (by have := hTr q (Nat.lt_trans hq hp); omega)).1
                                    show (E (T q).toNat).toNat < p
                                    omega)
                                  refine retB ?_
                                  cases rc <;> cases aca <;> cases st <;> cases rg <;> first | rfl | exact absurd hn (by decide) | exact absurd g133 (by decide) | exact absurd g136 (by decide) | exact absurd g139 (by decide)
                              · refine EL_no rfl rfl rfl rfl ?_
                                refine EL_p (Pu_pf rfl rfl) rfl ?_
                                refine EL_p (Pu_mv rfl) rfl ?_
                                refine EL_no rfl rfl rfl rfl ?_
                                refine EL_p (Pu_pf rfl rfl) rfl ?_
                                refine EL_p (Pu_as rfl) rfl ?_
                                refine EL_nil ?_
                                refine CE_ret ?_
                                refine ⟨_, rfl, ?_, H12.below⟩
                                have hn := hf.serial (fun p q hp hq hne => by
                                  have h1 := hse p q hp hq (fun hh => hne (congrArg Int.toNat hh))
                                  have h2 := (he.rng (T q).toNat (by have := hTr q (Nat.lt_trans hq hp); omega)).1
                                  show (E (T q).toNat).toNat < p
                                  omega)
                                refine retB ?_
                                cases rc <;> cases aca <;> cases st <;> cases rg <;> first | rfl | exact absurd hn (by decide) | exact absurd g133 (by decide) | exact absurd g136 (by decide) | exact absurd g139 (by decide)
                            · refine EL_no rfl rfl rfl rfl ?_
                              refine EL_p (Pu_pf rfl rfl) rfl ?_
                              refine EL_p (Pu_mv rfl) rfl ?_
                              refine EL_no rfl rfl rfl rfl ?_
                              refine EL_p (Pu_pf rfl rfl) rfl ?_
                              refine EL_p (Pu_mv rfl) rfl ?_
                              refine EL_no rfl rfl rfl rfl ?_
                              refine EL_p (Pu_pf rfl rfl) rfl ?_
                              refine EL_p (Pu_as rfl) rfl ?_
                              refine EL_nil ?_
                              refine CE_ret ?_
                              refine ⟨_, rfl, ?_, H12.below⟩
                              have hn := hf.serial (fun p q hp hq hne => by
                                have h1 := hse p q hp hq (fun hh => hne (congrArg Int.toNat hh))
                                have h2 := (he.rng (T q).toNat (by have := hTr q (Nat.lt_trans hq hp); omega)).1
                                show (E (T q).toNat).toNat < p
                                omega)
                              refine retB ?_
                              cases rc <;> cases aca <;> cases st <;> cases rg <;> first | rfl | exact absurd hn (by decide) | exact absurd g133 (by decide) | exact absurd g136 (by decide) | exact absurd g139 (by decide)
end Go.Proofs.Qxb6602549a
