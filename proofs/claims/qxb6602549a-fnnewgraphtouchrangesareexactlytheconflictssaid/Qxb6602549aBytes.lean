/-
  The size checks ahead of the laws, and ZZRecovery.
-/
import Derived.Test.Qxb6602549aRec
namespace Go.Proofs.Qxb6602549a
open Go Go.RowKit
set_option linter.unusedSimpArgs false
set_option linter.unusedVariables false

theorem Knows.unyielded {N : Nat} {e : Env} {full : List Oper} {a : Act} {j t : Nat} (ha : Knows N a e) (hj : dstAt full j = some t) (ht : look e t = some undef) : Go.yielded full.toArray a.tmps j = none := by
  unfold Go.yielded
  rw [dstAt_eq, hj]
  simp [ha.val t _ ht, undef]

/-- The guard itself was not asked: then the operation is passed over. -/
theorem EL_nu {P : Program} {N : Nat} {full rest : List Oper} {e : Env} {w : World} {K : Env → World → Prop} {d j t : Nat} {op : Op} {ty : TypeId} {pos : String} {af : Array Edge} {want : Bool}
    (hj : dstAt full j = some t) (ht : look e t = some undef) (hd : Nat.blt d N = true) (h : EL P N full rest ((d, undef) :: e) w K) :
    EL P N full ({ dst := some d, op := op, type := ty, pos := pos, after := af, guard := some (j, want) } :: rest) e w K := by
  refine ⟨fun a ha => ?_⟩
  have hy := ha.unyielded hj ht
  refine wpList_skip ?_ (h.out _ (ha.put d hd undef))
  simp [Region.wanted, hy]

theorem AO_nu {P : Program} {N : Nat} {full : List Oper} {S : World → Prop} {ord : List (Nat × Nat)} {e : Env} {w : World} {K : Env → World → Prop} {i j t d : Nat} {op : Op} {ty : TypeId} {pos : String} {af : Array Edge} {want : Bool}
    (ho : opAt full i = some { dst := some d, op := op, type := ty, pos := pos, after := af, guard := some (j, want) }) (hj : dstAt full j = some t)
    (ht : look e t = some undef) (hS : S w) (hd : Nat.blt d N = true)
    (h2 : AO P N full S ord ((d, undef) :: e) w K) : AO P N full S ((i, 0) :: ord) e w K :=
  AO_take (v := undef) ho hS (fun a ha => ⟨.inr ⟨by simp [Region.wanted, ha.unyielded hj ht], rfl⟩, ha.put d hd undef⟩) h2

theorem bytes19 {W0 w : World} {L : List Chunk} {a0 a1 a2 a3 a5 a6 : Option Addr} {l0 l1 l2 l3 l5 l6 c0 c1 c2 c3 c5 c6 : Nat} {v4 : Value} (H : HP W0 w L) :
    Calls Try.prog 19 #[.slice a0 l0 c0, .slice a1 l1 c1, .slice a2 l2 c2, .slice a3 l3 c3, v4, .slice a5 l5 c5, .slice a6 l6 c6] w fun x w' => (∃ b, x = .returned (.bool b) ∧ (b = true → l0 + l1 + l2 + l3 + l5 + l6 ≤ 1048576)) ∧ HP W0 w' L := by
  refine calls_CE Try.func19 rfl Try.ntmps19 rfl rfl ?_
  refine CE_seq ?_
  refine CE_reg ?_
  refine EL_p (Pu_as rfl) rfl ?_
  refine EL_nil ?_
  refine CE_seq ?_
  refine CE_reg ?_
  refine EL_p (Pu_as rfl) rfl ?_
  refine EL_nil ?_
  refine CE_seq ?_
  refine CE_seq ?_
  refine CE_reg ?_
  refine EL_p (Pu_mv rfl) rfl ?_
  refine EL_p (Pu_len rfl sl22 rfl) rfl ?_
  refine EL_p (Pu_gtr rfl rfl) rfl ?_
  refine EL_nil ?_
  refine CE_cP rfl (fun c18 => ?_) (fun c18 => ?_)
  · refine CE_seq ?_
    refine CE_reg ?_
    refine EL_p (Pu_as rfl) rfl ?_
    refine EL_nil ?_
    refine CE_ret ?_
    exact ⟨_, rfl, ⟨_, rfl, fun hh => Bool.noConfusion hh⟩, H⟩
  · refine CE_skip ?_
    refine CE_seq ?_
    refine CE_reg ?_
    refine EL_p (Pu_mv rfl) rfl ?_
    refine EL_p (Pu_mv rfl) rfl ?_
    refine EL_p (Pu_len rfl sl22 rfl) rfl ?_
    refine EL_p (Pu_add rfl rfl (w64 (by omega))) rfl ?_
    refine EL_p (Pu_as rfl) rfl ?_
    refine EL_nil ?_
    refine CE_seq ?_
    refine CE_seq ?_
    refine CE_reg ?_
    refine EL_p (Pu_mv rfl) rfl ?_
    refine EL_p (Pu_gtr rfl rfl) rfl ?_
    refine EL_nil ?_
    refine CE_cP rfl (fun c24 => ?_) (fun c24 => ?_)
    · refine CE_seq ?_
      refine CE_reg ?_
      refine EL_p (Pu_as rfl) rfl ?_
      refine EL_nil ?_
      refine CE_ret ?_
      exact ⟨_, rfl, ⟨_, rfl, fun hh => Bool.noConfusion hh⟩, H⟩
    · refine CE_skip ?_
      refine CE_seq ?_
      refine CE_seq ?_
      refine CE_reg ?_
      refine EL_p (Pu_mv rfl) rfl ?_
      refine EL_p (Pu_len rfl sl23 rfl) rfl ?_
      refine EL_p (Pu_gtr rfl rfl) rfl ?_
      refine EL_nil ?_
      refine CE_cP rfl (fun c27 => ?_) (fun c27 => ?_)
      · refine CE_seq ?_
        refine CE_reg ?_
        refine EL_p (Pu_as rfl) rfl ?_
        refine EL_nil ?_
        refine CE_ret ?_
        exact ⟨_, rfl, ⟨_, rfl, fun hh => Bool.noConfusion hh⟩, H⟩
      · refine CE_skip ?_
        refine CE_seq ?_
        refine CE_reg ?_
        refine EL_p (Pu_mv rfl) rfl ?_
        refine EL_p (Pu_mv rfl) rfl ?_
        refine EL_p (Pu_len rfl sl23 rfl) rfl ?_
        refine EL_p (Pu_add rfl rfl (w64 (by omega))) rfl ?_
        refine EL_p (Pu_as rfl) rfl ?_
        refine EL_nil ?_
        refine CE_seq ?_
        refine CE_seq ?_
        refine CE_reg ?_
        refine EL_p (Pu_mv rfl) rfl ?_
        refine EL_p (Pu_gtr rfl rfl) rfl ?_
        refine EL_nil ?_
        refine CE_cP rfl (fun c33 => ?_) (fun c33 => ?_)
        · refine CE_seq ?_
          refine CE_reg ?_
          refine EL_p (Pu_as rfl) rfl ?_
          refine EL_nil ?_
          refine CE_ret ?_
          exact ⟨_, rfl, ⟨_, rfl, fun hh => Bool.noConfusion hh⟩, H⟩
        · refine CE_skip ?_
          refine CE_seq ?_
          refine CE_seq ?_
          refine CE_reg ?_
          refine EL_p (Pu_mv rfl) rfl ?_
          refine EL_p (Pu_len rfl sl24 rfl) rfl ?_
          refine EL_p (Pu_gtr rfl rfl) rfl ?_
          refine EL_nil ?_
          refine CE_cP rfl (fun c36 => ?_) (fun c36 => ?_)
          · refine CE_seq ?_
            refine CE_reg ?_
            refine EL_p (Pu_as rfl) rfl ?_
            refine EL_nil ?_
            refine CE_ret ?_
            exact ⟨_, rfl, ⟨_, rfl, fun hh => Bool.noConfusion hh⟩, H⟩
          · refine CE_skip ?_
            refine CE_seq ?_
            refine CE_reg ?_
            refine EL_p (Pu_mv rfl) rfl ?_
            refine EL_p (Pu_mv rfl) rfl ?_
            refine EL_p (Pu_len rfl sl24 rfl) rfl ?_
            refine EL_p (Pu_add rfl rfl (w64 (by omega))) rfl ?_
            refine EL_p (Pu_as rfl) rfl ?_
            refine EL_nil ?_
            refine CE_seq ?_
            refine CE_seq ?_
            refine CE_reg ?_
            refine EL_p (Pu_mv rfl) rfl ?_
            refine EL_p (Pu_gtr rfl rfl) rfl ?_
            refine EL_nil ?_
            refine CE_cP rfl (fun c42 => ?_) (fun c42 => ?_)
            · refine CE_seq ?_
              refine CE_reg ?_
              refine EL_p (Pu_as rfl) rfl ?_
              refine EL_nil ?_
              refine CE_ret ?_
              exact ⟨_, rfl, ⟨_, rfl, fun hh => Bool.noConfusion hh⟩, H⟩
            · refine CE_skip ?_
              refine CE_seq ?_
              refine CE_seq ?_
              refine CE_reg ?_
              refine EL_p (Pu_mv rfl) rfl ?_
              refine EL_p (Pu_len rfl sl24 rfl) rfl ?_
              refine EL_p (Pu_gtr rfl rfl) rfl ?_
              refine EL_nil ?_
              refine CE_cP rfl (fun c45 => ?_) (fun c45 => ?_)
              · refine CE_seq ?_
                refine CE_reg ?_
                refine EL_p (Pu_as rfl) rfl ?_
                refine EL_nil ?_
                refine CE_ret ?_
                exact ⟨_, rfl, ⟨_, rfl, fun hh => Bool.noConfusion hh⟩, H⟩
              · refine CE_skip ?_
                refine CE_seq ?_
                refine CE_reg ?_
                refine EL_p (Pu_mv rfl) rfl ?_
                refine EL_p (Pu_mv rfl) rfl ?_
                refine EL_p (Pu_len rfl sl24 rfl) rfl ?_
                refine EL_p (Pu_add rfl rfl (w64 (by omega))) rfl ?_
                refine EL_p (Pu_as rfl) rfl ?_
                refine EL_nil ?_
                refine CE_seq ?_
                refine CE_seq ?_
                refine CE_reg ?_
                refine EL_p (Pu_mv rfl) rfl ?_
                refine EL_p (Pu_gtr rfl rfl) rfl ?_
                refine EL_nil ?_
                refine CE_cP rfl (fun c51 => ?_) (fun c51 => ?_)
                · refine CE_seq ?_
                  refine CE_reg ?_
                  refine EL_p (Pu_as rfl) rfl ?_
                  refine EL_nil ?_
                  refine CE_ret ?_
                  exact ⟨_, rfl, ⟨_, rfl, fun hh => Bool.noConfusion hh⟩, H⟩
                · refine CE_skip ?_
                  refine CE_seq ?_
                  refine CE_seq ?_
                  refine CE_reg ?_
                  refine EL_p (Pu_mv rfl) rfl ?_
                  refine EL_p (Pu_len rfl sl25 rfl) rfl ?_
                  refine EL_p (Pu_gtr rfl rfl) rfl ?_
                  refine EL_nil ?_
                  refine CE_cP rfl (fun c54 => ?_) (fun c54 => ?_)
                  · refine CE_seq ?_
                    refine CE_reg ?_
                    refine EL_p (Pu_as rfl) rfl ?_
                    refine EL_nil ?_
                    refine CE_ret ?_
                    exact ⟨_, rfl, ⟨_, rfl, fun hh => Bool.noConfusion hh⟩, H⟩
                  · refine CE_skip ?_
                    refine CE_seq ?_
                    refine CE_reg ?_
                    refine EL_p (Pu_mv rfl) rfl ?_
                    refine EL_p (Pu_mv rfl) rfl ?_
                    refine EL_p (Pu_len rfl sl25 rfl) rfl ?_
                    refine EL_p (Pu_add rfl rfl (w64 (by omega))) rfl ?_
                    refine EL_p (Pu_as rfl) rfl ?_
                    refine EL_nil ?_
                    refine CE_seq ?_
                    refine CE_seq ?_
                    refine CE_reg ?_
                    refine EL_p (Pu_mv rfl) rfl ?_
                    refine EL_p (Pu_gtr rfl rfl) rfl ?_
                    refine EL_nil ?_
                    refine CE_cP rfl (fun c60 => ?_) (fun c60 => ?_)
                    · refine CE_seq ?_
                      refine CE_reg ?_
                      refine EL_p (Pu_as rfl) rfl ?_
                      refine EL_nil ?_
                      refine CE_ret ?_
                      exact ⟨_, rfl, ⟨_, rfl, fun hh => Bool.noConfusion hh⟩, H⟩
                    · refine CE_skip ?_
                      refine CE_seq ?_
                      refine CE_seq ?_
                      refine CE_reg ?_
                      refine EL_p (Pu_mv rfl) rfl ?_
                      refine EL_p (Pu_len rfl sl23 rfl) rfl ?_
                      refine EL_p (Pu_gtr rfl rfl) rfl ?_
                      refine EL_nil ?_
                      refine CE_cP rfl (fun c63 => ?_) (fun c63 => ?_)
                      · refine CE_seq ?_
                        refine CE_reg ?_
                        refine EL_p (Pu_as rfl) rfl ?_
                        refine EL_nil ?_
                        refine CE_ret ?_
                        exact ⟨_, rfl, ⟨_, rfl, fun hh => Bool.noConfusion hh⟩, H⟩
                      · refine CE_skip ?_
                        refine CE_seq ?_
                        refine CE_reg ?_
                        refine EL_p (Pu_mv rfl) rfl ?_
                        refine EL_p (Pu_mv rfl) rfl ?_
                        refine EL_p (Pu_len rfl sl23 rfl) rfl ?_
                        refine EL_p (Pu_add rfl rfl (w64 (by omega))) rfl ?_
                        refine EL_p (Pu_as rfl) rfl ?_
                        refine EL_nil ?_
                        refine CE_seq ?_
                        refine CE_seq ?_
                        refine CE_reg ?_
                        refine EL_p (Pu_mv rfl) rfl ?_
                        refine EL_p (Pu_gtr rfl rfl) rfl ?_
                        refine EL_nil ?_
                        refine CE_cP rfl (fun c69 => ?_) (fun c69 => ?_)
                        · refine CE_seq ?_
                          refine CE_reg ?_
                          refine EL_p (Pu_as rfl) rfl ?_
                          refine EL_nil ?_
                          refine CE_ret ?_
                          exact ⟨_, rfl, ⟨_, rfl, fun hh => Bool.noConfusion hh⟩, H⟩
                        · refine CE_skip ?_
                          refine CE_seq ?_
                          refine CE_reg ?_
                          refine EL_p (Pu_as rfl) rfl ?_
                          refine EL_nil ?_
                          refine CE_ret ?_
                          exact ⟨_, rfl, ⟨_, rfl, fun _ => by omega⟩, H⟩

theorem bytes20 {W0 w : World} {L : List Chunk} {a0 a1 a2 a3 a5 a6 : Option Addr} {l0 l1 l2 l3 l5 l6 c0 c1 c2 c3 c5 c6 : Nat} {v4 : Value} (H : HP W0 w L) :
    Calls Try.prog 20 #[.slice a0 l0 c0, .slice a1 l1 c1, .slice a2 l2 c2, .slice a3 l3 c3, v4, .slice a5 l5 c5, .slice a6 l6 c6] w fun x w' => (∃ b, x = .returned (.bool b) ∧ (b = true → l0 + l1 + l2 + l3 + l5 + l6 ≤ 1048576)) ∧ HP W0 w' L := by
  refine calls_CE Try.func20 rfl Try.ntmps20 rfl rfl ?_
  refine CE_seq ?_
  refine CE_reg ?_
  refine EL_p (Pu_as rfl) rfl ?_
  refine EL_nil ?_
  refine CE_seq ?_
  refine CE_reg ?_
  refine EL_p (Pu_as rfl) rfl ?_
  refine EL_nil ?_
  refine CE_seq ?_
  refine CE_seq ?_
  refine CE_reg ?_
  refine EL_p (Pu_mv rfl) rfl ?_
  refine EL_p (Pu_len rfl sl22 rfl) rfl ?_
  refine EL_p (Pu_gtr rfl rfl) rfl ?_
  refine EL_nil ?_
  refine CE_cP rfl (fun c18 => ?_) (fun c18 => ?_)
  · refine CE_seq ?_
    refine CE_reg ?_
    refine EL_p (Pu_as rfl) rfl ?_
    refine EL_nil ?_
    refine CE_ret ?_
    exact ⟨_, rfl, ⟨_, rfl, fun hh => Bool.noConfusion hh⟩, H⟩
  · refine CE_skip ?_
    refine CE_seq ?_
    refine CE_reg ?_
    refine EL_p (Pu_mv rfl) rfl ?_
    refine EL_p (Pu_mv rfl) rfl ?_
    refine EL_p (Pu_len rfl sl22 rfl) rfl ?_
    refine EL_p (Pu_add rfl rfl (w64 (by omega))) rfl ?_
    refine EL_p (Pu_as rfl) rfl ?_
    refine EL_nil ?_
    refine CE_seq ?_
    refine CE_seq ?_
    refine CE_reg ?_
    refine EL_p (Pu_mv rfl) rfl ?_
    refine EL_p (Pu_gtr rfl rfl) rfl ?_
    refine EL_nil ?_
    refine CE_cP rfl (fun c24 => ?_) (fun c24 => ?_)
    · refine CE_seq ?_
      refine CE_reg ?_
      refine EL_p (Pu_as rfl) rfl ?_
      refine EL_nil ?_
      refine CE_ret ?_
      exact ⟨_, rfl, ⟨_, rfl, fun hh => Bool.noConfusion hh⟩, H⟩
    · refine CE_skip ?_
      refine CE_seq ?_
      refine CE_seq ?_
      refine CE_reg ?_
      refine EL_p (Pu_mv rfl) rfl ?_
      refine EL_p (Pu_len rfl sl23 rfl) rfl ?_
      refine EL_p (Pu_gtr rfl rfl) rfl ?_
      refine EL_nil ?_
      refine CE_cP rfl (fun c27 => ?_) (fun c27 => ?_)
      · refine CE_seq ?_
        refine CE_reg ?_
        refine EL_p (Pu_as rfl) rfl ?_
        refine EL_nil ?_
        refine CE_ret ?_
        exact ⟨_, rfl, ⟨_, rfl, fun hh => Bool.noConfusion hh⟩, H⟩
      · refine CE_skip ?_
        refine CE_seq ?_
        refine CE_reg ?_
        refine EL_p (Pu_mv rfl) rfl ?_
        refine EL_p (Pu_mv rfl) rfl ?_
        refine EL_p (Pu_len rfl sl23 rfl) rfl ?_
        refine EL_p (Pu_add rfl rfl (w64 (by omega))) rfl ?_
        refine EL_p (Pu_as rfl) rfl ?_
        refine EL_nil ?_
        refine CE_seq ?_
        refine CE_seq ?_
        refine CE_reg ?_
        refine EL_p (Pu_mv rfl) rfl ?_
        refine EL_p (Pu_gtr rfl rfl) rfl ?_
        refine EL_nil ?_
        refine CE_cP rfl (fun c33 => ?_) (fun c33 => ?_)
        · refine CE_seq ?_
          refine CE_reg ?_
          refine EL_p (Pu_as rfl) rfl ?_
          refine EL_nil ?_
          refine CE_ret ?_
          exact ⟨_, rfl, ⟨_, rfl, fun hh => Bool.noConfusion hh⟩, H⟩
        · refine CE_skip ?_
          refine CE_seq ?_
          refine CE_seq ?_
          refine CE_reg ?_
          refine EL_p (Pu_mv rfl) rfl ?_
          refine EL_p (Pu_len rfl sl24 rfl) rfl ?_
          refine EL_p (Pu_gtr rfl rfl) rfl ?_
          refine EL_nil ?_
          refine CE_cP rfl (fun c36 => ?_) (fun c36 => ?_)
          · refine CE_seq ?_
            refine CE_reg ?_
            refine EL_p (Pu_as rfl) rfl ?_
            refine EL_nil ?_
            refine CE_ret ?_
            exact ⟨_, rfl, ⟨_, rfl, fun hh => Bool.noConfusion hh⟩, H⟩
          · refine CE_skip ?_
            refine CE_seq ?_
            refine CE_reg ?_
            refine EL_p (Pu_mv rfl) rfl ?_
            refine EL_p (Pu_mv rfl) rfl ?_
            refine EL_p (Pu_len rfl sl24 rfl) rfl ?_
            refine EL_p (Pu_add rfl rfl (w64 (by omega))) rfl ?_
            refine EL_p (Pu_as rfl) rfl ?_
            refine EL_nil ?_
            refine CE_seq ?_
            refine CE_seq ?_
            refine CE_reg ?_
            refine EL_p (Pu_mv rfl) rfl ?_
            refine EL_p (Pu_gtr rfl rfl) rfl ?_
            refine EL_nil ?_
            refine CE_cP rfl (fun c42 => ?_) (fun c42 => ?_)
            · refine CE_seq ?_
              refine CE_reg ?_
              refine EL_p (Pu_as rfl) rfl ?_
              refine EL_nil ?_
              refine CE_ret ?_
              exact ⟨_, rfl, ⟨_, rfl, fun hh => Bool.noConfusion hh⟩, H⟩
            · refine CE_skip ?_
              refine CE_seq ?_
              refine CE_seq ?_
              refine CE_reg ?_
              refine EL_p (Pu_mv rfl) rfl ?_
              refine EL_p (Pu_len rfl sl24 rfl) rfl ?_
              refine EL_p (Pu_gtr rfl rfl) rfl ?_
              refine EL_nil ?_
              refine CE_cP rfl (fun c45 => ?_) (fun c45 => ?_)
              · refine CE_seq ?_
                refine CE_reg ?_
                refine EL_p (Pu_as rfl) rfl ?_
                refine EL_nil ?_
                refine CE_ret ?_
                exact ⟨_, rfl, ⟨_, rfl, fun hh => Bool.noConfusion hh⟩, H⟩
              · refine CE_skip ?_
                refine CE_seq ?_
                refine CE_reg ?_
                refine EL_p (Pu_mv rfl) rfl ?_
                refine EL_p (Pu_mv rfl) rfl ?_
                refine EL_p (Pu_len rfl sl24 rfl) rfl ?_
                refine EL_p (Pu_add rfl rfl (w64 (by omega))) rfl ?_
                refine EL_p (Pu_as rfl) rfl ?_
                refine EL_nil ?_
                refine CE_seq ?_
                refine CE_seq ?_
                refine CE_reg ?_
                refine EL_p (Pu_mv rfl) rfl ?_
                refine EL_p (Pu_gtr rfl rfl) rfl ?_
                refine EL_nil ?_
                refine CE_cP rfl (fun c51 => ?_) (fun c51 => ?_)
                · refine CE_seq ?_
                  refine CE_reg ?_
                  refine EL_p (Pu_as rfl) rfl ?_
                  refine EL_nil ?_
                  refine CE_ret ?_
                  exact ⟨_, rfl, ⟨_, rfl, fun hh => Bool.noConfusion hh⟩, H⟩
                · refine CE_skip ?_
                  refine CE_seq ?_
                  refine CE_seq ?_
                  refine CE_reg ?_
                  refine EL_p (Pu_mv rfl) rfl ?_
                  refine EL_p (Pu_len rfl sl25 rfl) rfl ?_
                  refine EL_p (Pu_gtr rfl rfl) rfl ?_
                  refine EL_nil ?_
                  refine CE_cP rfl (fun c54 => ?_) (fun c54 => ?_)
                  · refine CE_seq ?_
                    refine CE_reg ?_
                    refine EL_p (Pu_as rfl) rfl ?_
                    refine EL_nil ?_
                    refine CE_ret ?_
                    exact ⟨_, rfl, ⟨_, rfl, fun hh => Bool.noConfusion hh⟩, H⟩
                  · refine CE_skip ?_
                    refine CE_seq ?_
                    refine CE_reg ?_
                    refine EL_p (Pu_mv rfl) rfl ?_
                    refine EL_p (Pu_mv rfl) rfl ?_
                    refine EL_p (Pu_len rfl sl25 rfl) rfl ?_
                    refine EL_p (Pu_add rfl rfl (w64 (by omega))) rfl ?_
                    refine EL_p (Pu_as rfl) rfl ?_
                    refine EL_nil ?_
                    refine CE_seq ?_
                    refine CE_seq ?_
                    refine CE_reg ?_
                    refine EL_p (Pu_mv rfl) rfl ?_
                    refine EL_p (Pu_gtr rfl rfl) rfl ?_
                    refine EL_nil ?_
                    refine CE_cP rfl (fun c60 => ?_) (fun c60 => ?_)
                    · refine CE_seq ?_
                      refine CE_reg ?_
                      refine EL_p (Pu_as rfl) rfl ?_
                      refine EL_nil ?_
                      refine CE_ret ?_
                      exact ⟨_, rfl, ⟨_, rfl, fun hh => Bool.noConfusion hh⟩, H⟩
                    · refine CE_skip ?_
                      refine CE_seq ?_
                      refine CE_seq ?_
                      refine CE_reg ?_
                      refine EL_p (Pu_mv rfl) rfl ?_
                      refine EL_p (Pu_len rfl sl23 rfl) rfl ?_
                      refine EL_p (Pu_gtr rfl rfl) rfl ?_
                      refine EL_nil ?_
                      refine CE_cP rfl (fun c63 => ?_) (fun c63 => ?_)
                      · refine CE_seq ?_
                        refine CE_reg ?_
                        refine EL_p (Pu_as rfl) rfl ?_
                        refine EL_nil ?_
                        refine CE_ret ?_
                        exact ⟨_, rfl, ⟨_, rfl, fun hh => Bool.noConfusion hh⟩, H⟩
                      · refine CE_skip ?_
                        refine CE_seq ?_
                        refine CE_reg ?_
                        refine EL_p (Pu_mv rfl) rfl ?_
                        refine EL_p (Pu_mv rfl) rfl ?_
                        refine EL_p (Pu_len rfl sl23 rfl) rfl ?_
                        refine EL_p (Pu_add rfl rfl (w64 (by omega))) rfl ?_
                        refine EL_p (Pu_as rfl) rfl ?_
                        refine EL_nil ?_
                        refine CE_seq ?_
                        refine CE_seq ?_
                        refine CE_reg ?_
                        refine EL_p (Pu_mv rfl) rfl ?_
                        refine EL_p (Pu_gtr rfl rfl) rfl ?_
                        refine EL_nil ?_
                        refine CE_cP rfl (fun c69 => ?_) (fun c69 => ?_)
                        · refine CE_seq ?_
                          refine CE_reg ?_
                          refine EL_p (Pu_as rfl) rfl ?_
                          refine EL_nil ?_
                          refine CE_ret ?_
                          exact ⟨_, rfl, ⟨_, rfl, fun hh => Bool.noConfusion hh⟩, H⟩
                        · refine CE_skip ?_
                          refine CE_seq ?_
                          refine CE_reg ?_
                          refine EL_p (Pu_as rfl) rfl ?_
                          refine EL_nil ?_
                          refine CE_ret ?_
                          exact ⟨_, rfl, ⟨_, rfl, fun _ => by omega⟩, H⟩

theorem bytes22 {W0 w : World} {L : List Chunk} {a0 a1 a2 a3 a5 a6 : Option Addr} {l0 l1 l2 l3 l5 l6 c0 c1 c2 c3 c5 c6 : Nat} {v4 : Value} (H : HP W0 w L) :
    Calls Try.prog 22 #[.slice a0 l0 c0, .slice a1 l1 c1, .slice a2 l2 c2, .slice a3 l3 c3, v4, .slice a5 l5 c5, .slice a6 l6 c6] w fun x w' => (∃ b, x = .returned (.bool b) ∧ (b = true → l0 + l1 + l2 + l3 + l5 + l6 ≤ 1048576)) ∧ HP W0 w' L := by
  refine calls_CE Try.func22 rfl Try.ntmps22 rfl rfl ?_
  refine CE_seq ?_
  refine CE_reg ?_
  refine EL_p (Pu_as rfl) rfl ?_
  refine EL_nil ?_
  refine CE_seq ?_
  refine CE_reg ?_
  refine EL_p (Pu_as rfl) rfl ?_
  refine EL_nil ?_
  refine CE_seq ?_
  refine CE_seq ?_
  refine CE_reg ?_
  refine EL_p (Pu_mv rfl) rfl ?_
  refine EL_p (Pu_len rfl sl22 rfl) rfl ?_
  refine EL_p (Pu_gtr rfl rfl) rfl ?_
  refine EL_nil ?_
  refine CE_cP rfl (fun c18 => ?_) (fun c18 => ?_)
  · refine CE_seq ?_
    refine CE_reg ?_
    refine EL_p (Pu_as rfl) rfl ?_
    refine EL_nil ?_
    refine CE_ret ?_
    exact ⟨_, rfl, ⟨_, rfl, fun hh => Bool.noConfusion hh⟩, H⟩
  · refine CE_skip ?_
    refine CE_seq ?_
    refine CE_reg ?_
    refine EL_p (Pu_mv rfl) rfl ?_
    refine EL_p (Pu_mv rfl) rfl ?_
    refine EL_p (Pu_len rfl sl22 rfl) rfl ?_
    refine EL_p (Pu_add rfl rfl (w64 (by omega))) rfl ?_
    refine EL_p (Pu_as rfl) rfl ?_
    refine EL_nil ?_
    refine CE_seq ?_
    refine CE_seq ?_
    refine CE_reg ?_
    refine EL_p (Pu_mv rfl) rfl ?_
    refine EL_p (Pu_gtr rfl rfl) rfl ?_
    refine EL_nil ?_
    refine CE_cP rfl (fun c24 => ?_) (fun c24 => ?_)
    · refine CE_seq ?_
      refine CE_reg ?_
      refine EL_p (Pu_as rfl) rfl ?_
      refine EL_nil ?_
      refine CE_ret ?_
      exact ⟨_, rfl, ⟨_, rfl, fun hh => Bool.noConfusion hh⟩, H⟩
    · refine CE_skip ?_
      refine CE_seq ?_
      refine CE_seq ?_
      refine CE_reg ?_
      refine EL_p (Pu_mv rfl) rfl ?_
      refine EL_p (Pu_len rfl sl23 rfl) rfl ?_
      refine EL_p (Pu_gtr rfl rfl) rfl ?_
      refine EL_nil ?_
      refine CE_cP rfl (fun c27 => ?_) (fun c27 => ?_)
      · refine CE_seq ?_
        refine CE_reg ?_
        refine EL_p (Pu_as rfl) rfl ?_
        refine EL_nil ?_
        refine CE_ret ?_
        exact ⟨_, rfl, ⟨_, rfl, fun hh => Bool.noConfusion hh⟩, H⟩
      · refine CE_skip ?_
        refine CE_seq ?_
        refine CE_reg ?_
        refine EL_p (Pu_mv rfl) rfl ?_
        refine EL_p (Pu_mv rfl) rfl ?_
        refine EL_p (Pu_len rfl sl23 rfl) rfl ?_
        refine EL_p (Pu_add rfl rfl (w64 (by omega))) rfl ?_
        refine EL_p (Pu_as rfl) rfl ?_
        refine EL_nil ?_
        refine CE_seq ?_
        refine CE_seq ?_
        refine CE_reg ?_
        refine EL_p (Pu_mv rfl) rfl ?_
        refine EL_p (Pu_gtr rfl rfl) rfl ?_
        refine EL_nil ?_
        refine CE_cP rfl (fun c33 => ?_) (fun c33 => ?_)
        · refine CE_seq ?_
          refine CE_reg ?_
          refine EL_p (Pu_as rfl) rfl ?_
          refine EL_nil ?_
          refine CE_ret ?_
          exact ⟨_, rfl, ⟨_, rfl, fun hh => Bool.noConfusion hh⟩, H⟩
        · refine CE_skip ?_
          refine CE_seq ?_
          refine CE_seq ?_
          refine CE_reg ?_
          refine EL_p (Pu_mv rfl) rfl ?_
          refine EL_p (Pu_len rfl sl24 rfl) rfl ?_
          refine EL_p (Pu_gtr rfl rfl) rfl ?_
          refine EL_nil ?_
          refine CE_cP rfl (fun c36 => ?_) (fun c36 => ?_)
          · refine CE_seq ?_
            refine CE_reg ?_
            refine EL_p (Pu_as rfl) rfl ?_
            refine EL_nil ?_
            refine CE_ret ?_
            exact ⟨_, rfl, ⟨_, rfl, fun hh => Bool.noConfusion hh⟩, H⟩
          · refine CE_skip ?_
            refine CE_seq ?_
            refine CE_reg ?_
            refine EL_p (Pu_mv rfl) rfl ?_
            refine EL_p (Pu_mv rfl) rfl ?_
            refine EL_p (Pu_len rfl sl24 rfl) rfl ?_
            refine EL_p (Pu_add rfl rfl (w64 (by omega))) rfl ?_
            refine EL_p (Pu_as rfl) rfl ?_
            refine EL_nil ?_
            refine CE_seq ?_
            refine CE_seq ?_
            refine CE_reg ?_
            refine EL_p (Pu_mv rfl) rfl ?_
            refine EL_p (Pu_gtr rfl rfl) rfl ?_
            refine EL_nil ?_
            refine CE_cP rfl (fun c42 => ?_) (fun c42 => ?_)
            · refine CE_seq ?_
              refine CE_reg ?_
              refine EL_p (Pu_as rfl) rfl ?_
              refine EL_nil ?_
              refine CE_ret ?_
              exact ⟨_, rfl, ⟨_, rfl, fun hh => Bool.noConfusion hh⟩, H⟩
            · refine CE_skip ?_
              refine CE_seq ?_
              refine CE_seq ?_
              refine CE_reg ?_
              refine EL_p (Pu_mv rfl) rfl ?_
              refine EL_p (Pu_len rfl sl24 rfl) rfl ?_
              refine EL_p (Pu_gtr rfl rfl) rfl ?_
              refine EL_nil ?_
              refine CE_cP rfl (fun c45 => ?_) (fun c45 => ?_)
              · refine CE_seq ?_
                refine CE_reg ?_
                refine EL_p (Pu_as rfl) rfl ?_
                refine EL_nil ?_
                refine CE_ret ?_
                exact ⟨_, rfl, ⟨_, rfl, fun hh => Bool.noConfusion hh⟩, H⟩
              · refine CE_skip ?_
                refine CE_seq ?_
                refine CE_reg ?_
                refine EL_p (Pu_mv rfl) rfl ?_
                refine EL_p (Pu_mv rfl) rfl ?_
                refine EL_p (Pu_len rfl sl24 rfl) rfl ?_
                refine EL_p (Pu_add rfl rfl (w64 (by omega))) rfl ?_
                refine EL_p (Pu_as rfl) rfl ?_
                refine EL_nil ?_
                refine CE_seq ?_
                refine CE_seq ?_
                refine CE_reg ?_
                refine EL_p (Pu_mv rfl) rfl ?_
                refine EL_p (Pu_gtr rfl rfl) rfl ?_
                refine EL_nil ?_
                refine CE_cP rfl (fun c51 => ?_) (fun c51 => ?_)
                · refine CE_seq ?_
                  refine CE_reg ?_
                  refine EL_p (Pu_as rfl) rfl ?_
                  refine EL_nil ?_
                  refine CE_ret ?_
                  exact ⟨_, rfl, ⟨_, rfl, fun hh => Bool.noConfusion hh⟩, H⟩
                · refine CE_skip ?_
                  refine CE_seq ?_
                  refine CE_seq ?_
                  refine CE_reg ?_
                  refine EL_p (Pu_mv rfl) rfl ?_
                  refine EL_p (Pu_len rfl sl25 rfl) rfl ?_
                  refine EL_p (Pu_gtr rfl rfl) rfl ?_
                  refine EL_nil ?_
                  refine CE_cP rfl (fun c54 => ?_) (fun c54 => ?_)
                  · refine CE_seq ?_
                    refine CE_reg ?_
                    refine EL_p (Pu_as rfl) rfl ?_
                    refine EL_nil ?_
                    refine CE_ret ?_
                    exact ⟨_, rfl, ⟨_, rfl, fun hh => Bool.noConfusion hh⟩, H⟩
                  · refine CE_skip ?_
                    refine CE_seq ?_
                    refine CE_reg ?_
                    refine EL_p (Pu_mv rfl) rfl ?_
                    refine EL_p (Pu_mv rfl) rfl ?_
                    refine EL_p (Pu_len rfl sl25 rfl) rfl ?_
                    refine EL_p (Pu_add rfl rfl (w64 (by omega))) rfl ?_
                    refine EL_p (Pu_as rfl) rfl ?_
                    refine EL_nil ?_
                    refine CE_seq ?_
                    refine CE_seq ?_
                    refine CE_reg ?_
                    refine EL_p (Pu_mv rfl) rfl ?_
                    refine EL_p (Pu_gtr rfl rfl) rfl ?_
                    refine EL_nil ?_
                    refine CE_cP rfl (fun c60 => ?_) (fun c60 => ?_)
                    · refine CE_seq ?_
                      refine CE_reg ?_
                      refine EL_p (Pu_as rfl) rfl ?_
                      refine EL_nil ?_
                      refine CE_ret ?_
                      exact ⟨_, rfl, ⟨_, rfl, fun hh => Bool.noConfusion hh⟩, H⟩
                    · refine CE_skip ?_
                      refine CE_seq ?_
                      refine CE_seq ?_
                      refine CE_reg ?_
                      refine EL_p (Pu_mv rfl) rfl ?_
                      refine EL_p (Pu_len rfl sl23 rfl) rfl ?_
                      refine EL_p (Pu_gtr rfl rfl) rfl ?_
                      refine EL_nil ?_
                      refine CE_cP rfl (fun c63 => ?_) (fun c63 => ?_)
                      · refine CE_seq ?_
                        refine CE_reg ?_
                        refine EL_p (Pu_as rfl) rfl ?_
                        refine EL_nil ?_
                        refine CE_ret ?_
                        exact ⟨_, rfl, ⟨_, rfl, fun hh => Bool.noConfusion hh⟩, H⟩
                      · refine CE_skip ?_
                        refine CE_seq ?_
                        refine CE_reg ?_
                        refine EL_p (Pu_mv rfl) rfl ?_
                        refine EL_p (Pu_mv rfl) rfl ?_
                        refine EL_p (Pu_len rfl sl23 rfl) rfl ?_
                        refine EL_p (Pu_add rfl rfl (w64 (by omega))) rfl ?_
                        refine EL_p (Pu_as rfl) rfl ?_
                        refine EL_nil ?_
                        refine CE_seq ?_
                        refine CE_seq ?_
                        refine CE_reg ?_
                        refine EL_p (Pu_mv rfl) rfl ?_
                        refine EL_p (Pu_gtr rfl rfl) rfl ?_
                        refine EL_nil ?_
                        refine CE_cP rfl (fun c69 => ?_) (fun c69 => ?_)
                        · refine CE_seq ?_
                          refine CE_reg ?_
                          refine EL_p (Pu_as rfl) rfl ?_
                          refine EL_nil ?_
                          refine CE_ret ?_
                          exact ⟨_, rfl, ⟨_, rfl, fun hh => Bool.noConfusion hh⟩, H⟩
                        · refine CE_skip ?_
                          refine CE_seq ?_
                          refine CE_reg ?_
                          refine EL_p (Pu_as rfl) rfl ?_
                          refine EL_nil ?_
                          refine CE_ret ?_
                          exact ⟨_, rfl, ⟨_, rfl, fun _ => by omega⟩, H⟩

theorem bytes25 {W0 w : World} {L : List Chunk} {a0 a1 a2 a3 a5 a6 : Option Addr} {l0 l1 l2 l3 l5 l6 c0 c1 c2 c3 c5 c6 : Nat} {v4 : Value} (H : HP W0 w L) :
    Calls Try.prog 25 #[.slice a0 l0 c0, .slice a1 l1 c1, .slice a2 l2 c2, .slice a3 l3 c3, v4, .slice a5 l5 c5, .slice a6 l6 c6] w fun x w' => (∃ b, x = .returned (.bool b) ∧ (b = true → l0 + l1 + l2 + l3 + l5 + l6 ≤ 1048576)) ∧ HP W0 w' L := by
  refine calls_CE Try.func25 rfl Try.ntmps25 rfl rfl ?_
  refine CE_seq ?_
  refine CE_reg ?_
  refine EL_p (Pu_as rfl) rfl ?_
  refine EL_nil ?_
  refine CE_seq ?_
  refine CE_reg ?_
  refine EL_p (Pu_as rfl) rfl ?_
  refine EL_nil ?_
  refine CE_seq ?_
  refine CE_seq ?_
  refine CE_reg ?_
  refine EL_p (Pu_mv rfl) rfl ?_
  refine EL_p (Pu_len rfl sl22 rfl) rfl ?_
  refine EL_p (Pu_gtr rfl rfl) rfl ?_
  refine EL_nil ?_
  refine CE_cP rfl (fun c18 => ?_) (fun c18 => ?_)
  · refine CE_seq ?_
    refine CE_reg ?_
    refine EL_p (Pu_as rfl) rfl ?_
    refine EL_nil ?_
    refine CE_ret ?_
    exact ⟨_, rfl, ⟨_, rfl, fun hh => Bool.noConfusion hh⟩, H⟩
  · refine CE_skip ?_
    refine CE_seq ?_
    refine CE_reg ?_
    refine EL_p (Pu_mv rfl) rfl ?_
    refine EL_p (Pu_mv rfl) rfl ?_
    refine EL_p (Pu_len rfl sl22 rfl) rfl ?_
    refine EL_p (Pu_add rfl rfl (w64 (by omega))) rfl ?_
    refine EL_p (Pu_as rfl) rfl ?_
    refine EL_nil ?_
    refine CE_seq ?_
    refine CE_seq ?_
    refine CE_reg ?_
    refine EL_p (Pu_mv rfl) rfl ?_
    refine EL_p (Pu_gtr rfl rfl) rfl ?_
    refine EL_nil ?_
    refine CE_cP rfl (fun c24 => ?_) (fun c24 => ?_)
    · refine CE_seq ?_
      refine CE_reg ?_
      refine EL_p (Pu_as rfl) rfl ?_
      refine EL_nil ?_
      refine CE_ret ?_
      exact ⟨_, rfl, ⟨_, rfl, fun hh => Bool.noConfusion hh⟩, H⟩
    · refine CE_skip ?_
      refine CE_seq ?_
      refine CE_seq ?_
      refine CE_reg ?_
      refine EL_p (Pu_mv rfl) rfl ?_
      refine EL_p (Pu_len rfl sl23 rfl) rfl ?_
      refine EL_p (Pu_gtr rfl rfl) rfl ?_
      refine EL_nil ?_
      refine CE_cP rfl (fun c27 => ?_) (fun c27 => ?_)
      · refine CE_seq ?_
        refine CE_reg ?_
        refine EL_p (Pu_as rfl) rfl ?_
        refine EL_nil ?_
        refine CE_ret ?_
        exact ⟨_, rfl, ⟨_, rfl, fun hh => Bool.noConfusion hh⟩, H⟩
      · refine CE_skip ?_
        refine CE_seq ?_
        refine CE_reg ?_
        refine EL_p (Pu_mv rfl) rfl ?_
        refine EL_p (Pu_mv rfl) rfl ?_
        refine EL_p (Pu_len rfl sl23 rfl) rfl ?_
        refine EL_p (Pu_add rfl rfl (w64 (by omega))) rfl ?_
        refine EL_p (Pu_as rfl) rfl ?_
        refine EL_nil ?_
        refine CE_seq ?_
        refine CE_seq ?_
        refine CE_reg ?_
        refine EL_p (Pu_mv rfl) rfl ?_
        refine EL_p (Pu_gtr rfl rfl) rfl ?_
        refine EL_nil ?_
        refine CE_cP rfl (fun c33 => ?_) (fun c33 => ?_)
        · refine CE_seq ?_
          refine CE_reg ?_
          refine EL_p (Pu_as rfl) rfl ?_
          refine EL_nil ?_
          refine CE_ret ?_
          exact ⟨_, rfl, ⟨_, rfl, fun hh => Bool.noConfusion hh⟩, H⟩
        · refine CE_skip ?_
          refine CE_seq ?_
          refine CE_seq ?_
          refine CE_reg ?_
          refine EL_p (Pu_mv rfl) rfl ?_
          refine EL_p (Pu_len rfl sl24 rfl) rfl ?_
          refine EL_p (Pu_gtr rfl rfl) rfl ?_
          refine EL_nil ?_
          refine CE_cP rfl (fun c36 => ?_) (fun c36 => ?_)
          · refine CE_seq ?_
            refine CE_reg ?_
            refine EL_p (Pu_as rfl) rfl ?_
            refine EL_nil ?_
            refine CE_ret ?_
            exact ⟨_, rfl, ⟨_, rfl, fun hh => Bool.noConfusion hh⟩, H⟩
          · refine CE_skip ?_
            refine CE_seq ?_
            refine CE_reg ?_
            refine EL_p (Pu_mv rfl) rfl ?_
            refine EL_p (Pu_mv rfl) rfl ?_
            refine EL_p (Pu_len rfl sl24 rfl) rfl ?_
            refine EL_p (Pu_add rfl rfl (w64 (by omega))) rfl ?_
            refine EL_p (Pu_as rfl) rfl ?_
            refine EL_nil ?_
            refine CE_seq ?_
            refine CE_seq ?_
            refine CE_reg ?_
            refine EL_p (Pu_mv rfl) rfl ?_
            refine EL_p (Pu_gtr rfl rfl) rfl ?_
            refine EL_nil ?_
            refine CE_cP rfl (fun c42 => ?_) (fun c42 => ?_)
            · refine CE_seq ?_
              refine CE_reg ?_
              refine EL_p (Pu_as rfl) rfl ?_
              refine EL_nil ?_
              refine CE_ret ?_
              exact ⟨_, rfl, ⟨_, rfl, fun hh => Bool.noConfusion hh⟩, H⟩
            · refine CE_skip ?_
              refine CE_seq ?_
              refine CE_seq ?_
              refine CE_reg ?_
              refine EL_p (Pu_mv rfl) rfl ?_
              refine EL_p (Pu_len rfl sl24 rfl) rfl ?_
              refine EL_p (Pu_gtr rfl rfl) rfl ?_
              refine EL_nil ?_
              refine CE_cP rfl (fun c45 => ?_) (fun c45 => ?_)
              · refine CE_seq ?_
                refine CE_reg ?_
                refine EL_p (Pu_as rfl) rfl ?_
                refine EL_nil ?_
                refine CE_ret ?_
                exact ⟨_, rfl, ⟨_, rfl, fun hh => Bool.noConfusion hh⟩, H⟩
              · refine CE_skip ?_
                refine CE_seq ?_
                refine CE_reg ?_
                refine EL_p (Pu_mv rfl) rfl ?_
                refine EL_p (Pu_mv rfl) rfl ?_
                refine EL_p (Pu_len rfl sl24 rfl) rfl ?_
                refine EL_p (Pu_add rfl rfl (w64 (by omega))) rfl ?_
                refine EL_p (Pu_as rfl) rfl ?_
                refine EL_nil ?_
                refine CE_seq ?_
                refine CE_seq ?_
                refine CE_reg ?_
                refine EL_p (Pu_mv rfl) rfl ?_
                refine EL_p (Pu_gtr rfl rfl) rfl ?_
                refine EL_nil ?_
                refine CE_cP rfl (fun c51 => ?_) (fun c51 => ?_)
                · refine CE_seq ?_
                  refine CE_reg ?_
                  refine EL_p (Pu_as rfl) rfl ?_
                  refine EL_nil ?_
                  refine CE_ret ?_
                  exact ⟨_, rfl, ⟨_, rfl, fun hh => Bool.noConfusion hh⟩, H⟩
                · refine CE_skip ?_
                  refine CE_seq ?_
                  refine CE_seq ?_
                  refine CE_reg ?_
                  refine EL_p (Pu_mv rfl) rfl ?_
                  refine EL_p (Pu_len rfl sl25 rfl) rfl ?_
                  refine EL_p (Pu_gtr rfl rfl) rfl ?_
                  refine EL_nil ?_
                  refine CE_cP rfl (fun c54 => ?_) (fun c54 => ?_)
                  · refine CE_seq ?_
                    refine CE_reg ?_
                    refine EL_p (Pu_as rfl) rfl ?_
                    refine EL_nil ?_
                    refine CE_ret ?_
                    exact ⟨_, rfl, ⟨_, rfl, fun hh => Bool.noConfusion hh⟩, H⟩
                  · refine CE_skip ?_
                    refine CE_seq ?_
                    refine CE_reg ?_
                    refine EL_p (Pu_mv rfl) rfl ?_
                    refine EL_p (Pu_mv rfl) rfl ?_
                    refine EL_p (Pu_len rfl sl25 rfl) rfl ?_
                    refine EL_p (Pu_add rfl rfl (w64 (by omega))) rfl ?_
                    refine EL_p (Pu_as rfl) rfl ?_
                    refine EL_nil ?_
                    refine CE_seq ?_
                    refine CE_seq ?_
                    refine CE_reg ?_
                    refine EL_p (Pu_mv rfl) rfl ?_
                    refine EL_p (Pu_gtr rfl rfl) rfl ?_
                    refine EL_nil ?_
                    refine CE_cP rfl (fun c60 => ?_) (fun c60 => ?_)
                    · refine CE_seq ?_
                      refine CE_reg ?_
                      refine EL_p (Pu_as rfl) rfl ?_
                      refine EL_nil ?_
                      refine CE_ret ?_
                      exact ⟨_, rfl, ⟨_, rfl, fun hh => Bool.noConfusion hh⟩, H⟩
                    · refine CE_skip ?_
                      refine CE_seq ?_
                      refine CE_seq ?_
                      refine CE_reg ?_
                      refine EL_p (Pu_mv rfl) rfl ?_
                      refine EL_p (Pu_len rfl sl23 rfl) rfl ?_
                      refine EL_p (Pu_gtr rfl rfl) rfl ?_
                      refine EL_nil ?_
                      refine CE_cP rfl (fun c63 => ?_) (fun c63 => ?_)
                      · refine CE_seq ?_
                        refine CE_reg ?_
                        refine EL_p (Pu_as rfl) rfl ?_
                        refine EL_nil ?_
                        refine CE_ret ?_
                        exact ⟨_, rfl, ⟨_, rfl, fun hh => Bool.noConfusion hh⟩, H⟩
                      · refine CE_skip ?_
                        refine CE_seq ?_
                        refine CE_reg ?_
                        refine EL_p (Pu_mv rfl) rfl ?_
                        refine EL_p (Pu_mv rfl) rfl ?_
                        refine EL_p (Pu_len rfl sl23 rfl) rfl ?_
                        refine EL_p (Pu_add rfl rfl (w64 (by omega))) rfl ?_
                        refine EL_p (Pu_as rfl) rfl ?_
                        refine EL_nil ?_
                        refine CE_seq ?_
                        refine CE_seq ?_
                        refine CE_reg ?_
                        refine EL_p (Pu_mv rfl) rfl ?_
                        refine EL_p (Pu_gtr rfl rfl) rfl ?_
                        refine EL_nil ?_
                        refine CE_cP rfl (fun c69 => ?_) (fun c69 => ?_)
                        · refine CE_seq ?_
                          refine CE_reg ?_
                          refine EL_p (Pu_as rfl) rfl ?_
                          refine EL_nil ?_
                          refine CE_ret ?_
                          exact ⟨_, rfl, ⟨_, rfl, fun hh => Bool.noConfusion hh⟩, H⟩
                        · refine CE_skip ?_
                          refine CE_seq ?_
                          refine CE_reg ?_
                          refine EL_p (Pu_as rfl) rfl ?_
                          refine EL_nil ?_
                          refine CE_ret ?_
                          exact ⟨_, rfl, ⟨_, rfl, fun _ => by omega⟩, H⟩

theorem bytes32 {W0 w : World} {L : List Chunk} {a0 a1 a2 a3 a5 a6 : Option Addr} {l0 l1 l2 l3 l5 l6 c0 c1 c2 c3 c5 c6 : Nat} {v4 : Value} (H : HP W0 w L) :
    Calls Try.prog 32 #[.slice a0 l0 c0, .slice a1 l1 c1, .slice a2 l2 c2, .slice a3 l3 c3, v4, .slice a5 l5 c5, .slice a6 l6 c6] w fun x w' => (∃ b, x = .returned (.bool b) ∧ (b = true → l0 + l1 + l2 + l3 + l5 + l6 ≤ 1048576)) ∧ HP W0 w' L := by
  refine calls_CE Try.func32 rfl Try.ntmps32 rfl rfl ?_
  refine CE_seq ?_
  refine CE_reg ?_
  refine EL_p (Pu_as rfl) rfl ?_
  refine EL_nil ?_
  refine CE_seq ?_
  refine CE_reg ?_
  refine EL_p (Pu_as rfl) rfl ?_
  refine EL_nil ?_
  refine CE_seq ?_
  refine CE_seq ?_
  refine CE_reg ?_
  refine EL_p (Pu_mv rfl) rfl ?_
  refine EL_p (Pu_len rfl sl22 rfl) rfl ?_
  refine EL_p (Pu_gtr rfl rfl) rfl ?_
  refine EL_nil ?_
  refine CE_cP rfl (fun c18 => ?_) (fun c18 => ?_)
  · refine CE_seq ?_
    refine CE_reg ?_
    refine EL_p (Pu_as rfl) rfl ?_
    refine EL_nil ?_
    refine CE_ret ?_
    exact ⟨_, rfl, ⟨_, rfl, fun hh => Bool.noConfusion hh⟩, H⟩
  · refine CE_skip ?_
    refine CE_seq ?_
    refine CE_reg ?_
    refine EL_p (Pu_mv rfl) rfl ?_
    refine EL_p (Pu_mv rfl) rfl ?_
    refine EL_p (Pu_len rfl sl22 rfl) rfl ?_
    refine EL_p (Pu_add rfl rfl (w64 (by omega))) rfl ?_
    refine EL_p (Pu_as rfl) rfl ?_
    refine EL_nil ?_
    refine CE_seq ?_
    refine CE_seq ?_
    refine CE_reg ?_
    refine EL_p (Pu_mv rfl) rfl ?_
    refine EL_p (Pu_gtr rfl rfl) rfl ?_
    refine EL_nil ?_
    refine CE_cP rfl (fun c24 => ?_) (fun c24 => ?_)
    · refine CE_seq ?_
      refine CE_reg ?_
      refine EL_p (Pu_as rfl) rfl ?_
      refine EL_nil ?_
      refine CE_ret ?_
      exact ⟨_, rfl, ⟨_, rfl, fun hh => Bool.noConfusion hh⟩, H⟩
    · refine CE_skip ?_
      refine CE_seq ?_
      refine CE_seq ?_
      refine CE_reg ?_
      refine EL_p (Pu_mv rfl) rfl ?_
      refine EL_p (Pu_len rfl sl23 rfl) rfl ?_
      refine EL_p (Pu_gtr rfl rfl) rfl ?_
      refine EL_nil ?_
      refine CE_cP rfl (fun c27 => ?_) (fun c27 => ?_)
      · refine CE_seq ?_
        refine CE_reg ?_
        refine EL_p (Pu_as rfl) rfl ?_
        refine EL_nil ?_
        refine CE_ret ?_
        exact ⟨_, rfl, ⟨_, rfl, fun hh => Bool.noConfusion hh⟩, H⟩
      · refine CE_skip ?_
        refine CE_seq ?_
        refine CE_reg ?_
        refine EL_p (Pu_mv rfl) rfl ?_
        refine EL_p (Pu_mv rfl) rfl ?_
        refine EL_p (Pu_len rfl sl23 rfl) rfl ?_
        refine EL_p (Pu_add rfl rfl (w64 (by omega))) rfl ?_
        refine EL_p (Pu_as rfl) rfl ?_
        refine EL_nil ?_
        refine CE_seq ?_
        refine CE_seq ?_
        refine CE_reg ?_
        refine EL_p (Pu_mv rfl) rfl ?_
        refine EL_p (Pu_gtr rfl rfl) rfl ?_
        refine EL_nil ?_
        refine CE_cP rfl (fun c33 => ?_) (fun c33 => ?_)
        · refine CE_seq ?_
          refine CE_reg ?_
          refine EL_p (Pu_as rfl) rfl ?_
          refine EL_nil ?_
          refine CE_ret ?_
          exact ⟨_, rfl, ⟨_, rfl, fun hh => Bool.noConfusion hh⟩, H⟩
        · refine CE_skip ?_
          refine CE_seq ?_
          refine CE_seq ?_
          refine CE_reg ?_
          refine EL_p (Pu_mv rfl) rfl ?_
          refine EL_p (Pu_len rfl sl24 rfl) rfl ?_
          refine EL_p (Pu_gtr rfl rfl) rfl ?_
          refine EL_nil ?_
          refine CE_cP rfl (fun c36 => ?_) (fun c36 => ?_)
          · refine CE_seq ?_
            refine CE_reg ?_
            refine EL_p (Pu_as rfl) rfl ?_
            refine EL_nil ?_
            refine CE_ret ?_
            exact ⟨_, rfl, ⟨_, rfl, fun hh => Bool.noConfusion hh⟩, H⟩
          · refine CE_skip ?_
            refine CE_seq ?_
            refine CE_reg ?_
            refine EL_p (Pu_mv rfl) rfl ?_
            refine EL_p (Pu_mv rfl) rfl ?_
            refine EL_p (Pu_len rfl sl24 rfl) rfl ?_
            refine EL_p (Pu_add rfl rfl (w64 (by omega))) rfl ?_
            refine EL_p (Pu_as rfl) rfl ?_
            refine EL_nil ?_
            refine CE_seq ?_
            refine CE_seq ?_
            refine CE_reg ?_
            refine EL_p (Pu_mv rfl) rfl ?_
            refine EL_p (Pu_gtr rfl rfl) rfl ?_
            refine EL_nil ?_
            refine CE_cP rfl (fun c42 => ?_) (fun c42 => ?_)
            · refine CE_seq ?_
              refine CE_reg ?_
              refine EL_p (Pu_as rfl) rfl ?_
              refine EL_nil ?_
              refine CE_ret ?_
              exact ⟨_, rfl, ⟨_, rfl, fun hh => Bool.noConfusion hh⟩, H⟩
            · refine CE_skip ?_
              refine CE_seq ?_
              refine CE_seq ?_
              refine CE_reg ?_
              refine EL_p (Pu_mv rfl) rfl ?_
              refine EL_p (Pu_len rfl sl24 rfl) rfl ?_
              refine EL_p (Pu_gtr rfl rfl) rfl ?_
              refine EL_nil ?_
              refine CE_cP rfl (fun c45 => ?_) (fun c45 => ?_)
              · refine CE_seq ?_
                refine CE_reg ?_
                refine EL_p (Pu_as rfl) rfl ?_
                refine EL_nil ?_
                refine CE_ret ?_
                exact ⟨_, rfl, ⟨_, rfl, fun hh => Bool.noConfusion hh⟩, H⟩
              · refine CE_skip ?_
                refine CE_seq ?_
                refine CE_reg ?_
                refine EL_p (Pu_mv rfl) rfl ?_
                refine EL_p (Pu_mv rfl) rfl ?_
                refine EL_p (Pu_len rfl sl24 rfl) rfl ?_
                refine EL_p (Pu_add rfl rfl (w64 (by omega))) rfl ?_
                refine EL_p (Pu_as rfl) rfl ?_
                refine EL_nil ?_
                refine CE_seq ?_
                refine CE_seq ?_
                refine CE_reg ?_
                refine EL_p (Pu_mv rfl) rfl ?_
                refine EL_p (Pu_gtr rfl rfl) rfl ?_
                refine EL_nil ?_
                refine CE_cP rfl (fun c51 => ?_) (fun c51 => ?_)
                · refine CE_seq ?_
                  refine CE_reg ?_
                  refine EL_p (Pu_as rfl) rfl ?_
                  refine EL_nil ?_
                  refine CE_ret ?_
                  exact ⟨_, rfl, ⟨_, rfl, fun hh => Bool.noConfusion hh⟩, H⟩
                · refine CE_skip ?_
                  refine CE_seq ?_
                  refine CE_seq ?_
                  refine CE_reg ?_
                  refine EL_p (Pu_mv rfl) rfl ?_
                  refine EL_p (Pu_len rfl sl25 rfl) rfl ?_
                  refine EL_p (Pu_gtr rfl rfl) rfl ?_
                  refine EL_nil ?_
                  refine CE_cP rfl (fun c54 => ?_) (fun c54 => ?_)
                  · refine CE_seq ?_
                    refine CE_reg ?_
                    refine EL_p (Pu_as rfl) rfl ?_
                    refine EL_nil ?_
                    refine CE_ret ?_
                    exact ⟨_, rfl, ⟨_, rfl, fun hh => Bool.noConfusion hh⟩, H⟩
                  · refine CE_skip ?_
                    refine CE_seq ?_
                    refine CE_reg ?_
                    refine EL_p (Pu_mv rfl) rfl ?_
                    refine EL_p (Pu_mv rfl) rfl ?_
                    refine EL_p (Pu_len rfl sl25 rfl) rfl ?_
                    refine EL_p (Pu_add rfl rfl (w64 (by omega))) rfl ?_
                    refine EL_p (Pu_as rfl) rfl ?_
                    refine EL_nil ?_
                    refine CE_seq ?_
                    refine CE_seq ?_
                    refine CE_reg ?_
                    refine EL_p (Pu_mv rfl) rfl ?_
                    refine EL_p (Pu_gtr rfl rfl) rfl ?_
                    refine EL_nil ?_
                    refine CE_cP rfl (fun c60 => ?_) (fun c60 => ?_)
                    · refine CE_seq ?_
                      refine CE_reg ?_
                      refine EL_p (Pu_as rfl) rfl ?_
                      refine EL_nil ?_
                      refine CE_ret ?_
                      exact ⟨_, rfl, ⟨_, rfl, fun hh => Bool.noConfusion hh⟩, H⟩
                    · refine CE_skip ?_
                      refine CE_seq ?_
                      refine CE_seq ?_
                      refine CE_reg ?_
                      refine EL_p (Pu_mv rfl) rfl ?_
                      refine EL_p (Pu_len rfl sl23 rfl) rfl ?_
                      refine EL_p (Pu_gtr rfl rfl) rfl ?_
                      refine EL_nil ?_
                      refine CE_cP rfl (fun c63 => ?_) (fun c63 => ?_)
                      · refine CE_seq ?_
                        refine CE_reg ?_
                        refine EL_p (Pu_as rfl) rfl ?_
                        refine EL_nil ?_
                        refine CE_ret ?_
                        exact ⟨_, rfl, ⟨_, rfl, fun hh => Bool.noConfusion hh⟩, H⟩
                      · refine CE_skip ?_
                        refine CE_seq ?_
                        refine CE_reg ?_
                        refine EL_p (Pu_mv rfl) rfl ?_
                        refine EL_p (Pu_mv rfl) rfl ?_
                        refine EL_p (Pu_len rfl sl23 rfl) rfl ?_
                        refine EL_p (Pu_add rfl rfl (w64 (by omega))) rfl ?_
                        refine EL_p (Pu_as rfl) rfl ?_
                        refine EL_nil ?_
                        refine CE_seq ?_
                        refine CE_seq ?_
                        refine CE_reg ?_
                        refine EL_p (Pu_mv rfl) rfl ?_
                        refine EL_p (Pu_gtr rfl rfl) rfl ?_
                        refine EL_nil ?_
                        refine CE_cP rfl (fun c69 => ?_) (fun c69 => ?_)
                        · refine CE_seq ?_
                          refine CE_reg ?_
                          refine EL_p (Pu_as rfl) rfl ?_
                          refine EL_nil ?_
                          refine CE_ret ?_
                          exact ⟨_, rfl, ⟨_, rfl, fun hh => Bool.noConfusion hh⟩, H⟩
                        · refine CE_skip ?_
                          refine CE_seq ?_
                          refine CE_reg ?_
                          refine EL_p (Pu_as rfl) rfl ?_
                          refine EL_nil ?_
                          refine CE_ret ?_
                          exact ⟨_, rfl, ⟨_, rfl, fun _ => by omega⟩, H⟩

theorem recovery17 {W0 w : World} {L : List Chunk} {h : HRec} {E : Nat → Nat} {ze : Bool} {be : Nat} (H : HP W0 w L) (hin : InL h L) (ho : HOK h) (hE : EOK h E ze be L) (he : EPl h E) :
    Calls Try.prog 17 #[.pointer (some ⟨h.hb, 0, none⟩)] w fun x w' => (∃ rc aca st rg, x = .returned (.tuple #[.bool rc, .bool aca, .bool st, .bool rg]) ∧ RFacts h E rc aca st rg) ∧ HP W0 w' L := by
  refine calls_CE Try.func17 rfl Try.ntmps17 rfl rfl ?_
  refine CE_seq ?_
  refine CE_reg ?_
  refine EL_p (Pu_as rfl) rfl ?_
  refine EL_p (Pu_as rfl) rfl ?_
  refine EL_p (Pu_as rfl) rfl ?_
  refine EL_p (Pu_as rfl) rfl ?_
  refine EL_nil ?_
  refine CE_seq ?_
  refine CE_reg ?_
  refine EL_p (Pu_mv rfl) rfl ?_
  refine EL_L rfl (Lo_call ca38 rfl ((recovery38 H hin ho hE he).mono (fun y w1 hh => ?_)))
  obtain ⟨⟨rc, aca, st, rg, hy, hf⟩, H1⟩ := hh
  refine ⟨_, hy, ?_⟩
  refine EL_p (Pu_ext rfl rfl) rfl ?_
  refine EL_p (Pu_ext rfl rfl) rfl ?_
  refine EL_p (Pu_ext rfl rfl) rfl ?_
  refine EL_p (Pu_ext rfl rfl) rfl ?_
  refine EL_p (Pu_as rfl) rfl ?_
  refine EL_p (Pu_as rfl) rfl ?_
  refine EL_p (Pu_as rfl) rfl ?_
  refine EL_p (Pu_as rfl) rfl ?_
  refine EL_nil ?_
  refine CE_ret ?_
  exact ⟨_, rfl, ⟨_, _, _, _, rfl, hf⟩, H1⟩
end Go.Proofs.Qxb6602549a
