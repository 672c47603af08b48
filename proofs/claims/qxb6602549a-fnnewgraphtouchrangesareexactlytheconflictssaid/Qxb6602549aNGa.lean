/-
  Touches in memory; addSource, walked.
-/
import Derived.Test.Qxb6602549aGPlain
namespace Go.Proofs.Qxb6602549a
open Go Go.RowKit
set_option linter.unusedSimpArgs false
set_option linter.unusedVariables false

theorem lt8 {q : Nat} (h : q < 8) : q = 0 ∨ q = 1 ∨ q = 2 ∨ q = 3 ∨ q = 4 ∨ q = 5 ∨ q = 6 ∨ q = 7 := by omega
theorem tc_sa (c : Tch) (v : Int) (q : Nat) (hq : q < 8) : cellsF (tcell { c with sa := v }) q = if q = 1 then .int .i32 v else cellsF (tcell c) q := by
  rcases lt8 hq with rfl | rfl | rfl | rfl | rfl | rfl | rfl | rfl <;> rfl
theorem RepT.sa {r : Row} {l : List Tch} {i : Nat} (h : RepT r l) (hi : i < l.length) (v : Int) : RepT ⟨r.blk, r.len, r.cap, setF r.c (i * 8 + 1) (.int .i32 v)⟩ (setT (fun c => { c with sa := v }) i l) :=
  h.set hi (by decide) (fun q hq => tc_sa _ v q hq)
theorem RepT.gsa {r : Row} {l : List Tch} {i : Nat} (h : RepT r l) (hi : i < l.length) : r.c (i * 8 + 1) = .int .i32 (l.getD i (newT 0)).sa := h.c i 1 hi (by decide)
theorem tc_sw (c : Tch) (v : Int) (q : Nat) (hq : q < 8) : cellsF (tcell { c with sw := v }) q = if q = 2 then .int .i32 v else cellsF (tcell c) q := by
  rcases lt8 hq with rfl | rfl | rfl | rfl | rfl | rfl | rfl | rfl <;> rfl
theorem RepT.sw {r : Row} {l : List Tch} {i : Nat} (h : RepT r l) (hi : i < l.length) (v : Int) : RepT ⟨r.blk, r.len, r.cap, setF r.c (i * 8 + 2) (.int .i32 v)⟩ (setT (fun c => { c with sw := v }) i l) :=
  h.set hi (by decide) (fun q hq => tc_sw _ v q hq)
theorem RepT.gsw {r : Row} {l : List Tch} {i : Nat} (h : RepT r l) (hi : i < l.length) : r.c (i * 8 + 2) = .int .i32 (l.getD i (newT 0)).sw := h.c i 2 hi (by decide)
theorem tc_pa (c : Tch) (v : Int) (q : Nat) (hq : q < 8) : cellsF (tcell { c with pa := v }) q = if q = 3 then .int .i32 v else cellsF (tcell c) q := by
  rcases lt8 hq with rfl | rfl | rfl | rfl | rfl | rfl | rfl | rfl <;> rfl
theorem RepT.pa {r : Row} {l : List Tch} {i : Nat} (h : RepT r l) (hi : i < l.length) (v : Int) : RepT ⟨r.blk, r.len, r.cap, setF r.c (i * 8 + 3) (.int .i32 v)⟩ (setT (fun c => { c with pa := v }) i l) :=
  h.set hi (by decide) (fun q hq => tc_pa _ v q hq)
theorem RepT.gpa {r : Row} {l : List Tch} {i : Nat} (h : RepT r l) (hi : i < l.length) : r.c (i * 8 + 3) = .int .i32 (l.getD i (newT 0)).pa := h.c i 3 hi (by decide)
theorem tc_pw (c : Tch) (v : Int) (q : Nat) (hq : q < 8) : cellsF (tcell { c with pw := v }) q = if q = 4 then .int .i32 v else cellsF (tcell c) q := by
  rcases lt8 hq with rfl | rfl | rfl | rfl | rfl | rfl | rfl | rfl <;> rfl
theorem RepT.pw {r : Row} {l : List Tch} {i : Nat} (h : RepT r l) (hi : i < l.length) (v : Int) : RepT ⟨r.blk, r.len, r.cap, setF r.c (i * 8 + 4) (.int .i32 v)⟩ (setT (fun c => { c with pw := v }) i l) :=
  h.set hi (by decide) (fun q hq => tc_pw _ v q hq)
theorem RepT.gpw {r : Row} {l : List Tch} {i : Nat} (h : RepT r l) (hi : i < l.length) : r.c (i * 8 + 4) = .int .i32 (l.getD i (newT 0)).pw := h.c i 4 hi (by decide)
theorem tc_rf (c : Tch) (v : Bool) (q : Nat) (hq : q < 8) : cellsF (tcell { c with rf := v }) q = if q = 5 then .bool v else cellsF (tcell c) q := by
  rcases lt8 hq with rfl | rfl | rfl | rfl | rfl | rfl | rfl | rfl <;> rfl
theorem RepT.rf {r : Row} {l : List Tch} {i : Nat} (h : RepT r l) (hi : i < l.length) (v : Bool) : RepT ⟨r.blk, r.len, r.cap, setF r.c (i * 8 + 5) (.bool v)⟩ (setT (fun c => { c with rf := v }) i l) :=
  h.set hi (by decide) (fun q hq => tc_rf _ v q hq)
theorem RepT.grf {r : Row} {l : List Tch} {i : Nat} (h : RepT r l) (hi : i < l.length) : r.c (i * 8 + 5) = .bool (l.getD i (newT 0)).rf := h.c i 5 hi (by decide)
theorem tc_fr (c : Tch) (v : Int) (q : Nat) (hq : q < 8) : cellsF (tcell { c with fr := v }) q = if q = 6 then .int .i32 v else cellsF (tcell c) q := by
  rcases lt8 hq with rfl | rfl | rfl | rfl | rfl | rfl | rfl | rfl <;> rfl
theorem RepT.fr {r : Row} {l : List Tch} {i : Nat} (h : RepT r l) (hi : i < l.length) (v : Int) : RepT ⟨r.blk, r.len, r.cap, setF r.c (i * 8 + 6) (.int .i32 v)⟩ (setT (fun c => { c with fr := v }) i l) :=
  h.set hi (by decide) (fun q hq => tc_fr _ v q hq)
theorem RepT.gfr {r : Row} {l : List Tch} {i : Nat} (h : RepT r l) (hi : i < l.length) : r.c (i * 8 + 6) = .int .i32 (l.getD i (newT 0)).fr := h.c i 6 hi (by decide)
theorem tc_fs (c : Tch) (v : Bool) (q : Nat) (hq : q < 8) : cellsF (tcell { c with fs := v }) q = if q = 7 then .bool v else cellsF (tcell c) q := by
  rcases lt8 hq with rfl | rfl | rfl | rfl | rfl | rfl | rfl | rfl <;> rfl
theorem RepT.fs {r : Row} {l : List Tch} {i : Nat} (h : RepT r l) (hi : i < l.length) (v : Bool) : RepT ⟨r.blk, r.len, r.cap, setF r.c (i * 8 + 7) (.bool v)⟩ (setT (fun c => { c with fs := v }) i l) :=
  h.set hi (by decide) (fun q hq => tc_fs _ v q hq)
theorem RepT.gfs {r : Row} {l : List Tch} {i : Nat} (h : RepT r l) (hi : i < l.length) : r.c (i * 8 + 7) = .bool (l.getD i (newT 0)).fs := h.c i 7 hi (by decide)
theorem RepT.gitem {r : Row} {l : List Tch} {i : Nat} (h : RepT r l) (hi : i < l.length) : r.c (i * 8) = .int .i32 (l.getD i (newT 0)).item := h.c i 0 hi (by decide)

section
variable {P : Program} {N : Nat} {e : Env} {W0 w : World} {L : List Chunk} {x y : Operand} {v : Value} {ty t T : TypeId} {Rr : Value → World → Prop} {j mm es q b i : Nat} {R : Nat → Row} {r : Row}
theorem Lo_ust (H : HP W0 w L) (hj : L[j]? = some (Fam mm es T (updR R q r))) (hq : q < mm) (hb : r.blk = some b) (hx : opv e x = some (.pointer (some ⟨b, i, none⟩))) (hy : opv e y = some v) (ht : Flat P t) (hv : v.oneCell' = true)
    (hi : i < r.len * es) (h : ∀ w', HP W0 w' (L.set j (Fam mm es T (updR R q ⟨r.blk, r.len, r.cap, setF r.c i v⟩))) → Rr undef w') : Lo P N (.store t x y) ty e w Rr := by
  have e1 := updR_self R q r
  refine Lo_rst H hj hq (by rw [e1]; exact hb) hx hy ht hv (by rw [e1]; exact hi) (fun w' H' => h w' ?_)
  rw [e1, updR_updR] at H'
  exact H'
theorem HP.usame (H : HP W0 w L) (hj : L[j]? = some (Fam mm es T (updR R q r))) : HP W0 w (L.set j (Fam mm es T (updR R q r))) := H.rcongr hj (fun _ _ => ⟨rfl, rfl, rfl, fun _ _ => rfl⟩)
end

set_option maxHeartbeats 1000000 in
theorem addSource47 {W0 w : World} {L : List Chunk} {j nt t b i : Nat} {R : Nat → Row} {r : Row} {l : List Tch} {wv : Int} (H : HP W0 w L) (hj : L[j]? = some (Fam nt 8 68 (updR R t r))) (ht : t < nt) (hb : r.blk = some b) (hR : RepT r l) (hi : i < l.length) (hw : -1 ≤ wv) :
    Calls Try.prog 47 #[.pointer (some ⟨b, i * 8, none⟩), .int .i32 wv] w fun x w' => x = .returned (.tuple #[]) ∧ ∃ c', RepT ⟨r.blk, r.len, r.cap, c'⟩ (setT (fun c => addSrc c wv) i l) ∧ HP W0 w' (L.set j (Fam nt 8 68 (updR R t ⟨r.blk, r.len, r.cap, c'⟩))) := by
  have hlen := hR.len
  refine calls_CE Try.func47 rfl Try.ntmps47 rfl rfl ?_
  refine CE_mid ([(0, .pointer (some ⟨b, i * 8, none⟩)), (1, .int .i32 wv)]) ?_ ?_
  · refine CE_seq ?_
    refine CE_reg ?_
    refine EL_p (Pu_mv rfl) rfl ?_
    refine EL_p (Pu_lss rfl rfl) rfl ?_
    refine EL_nil ?_
    refine CE_cP rfl (fun c5 => ?_) (fun c5 => ?_)
    · obtain rfl : wv = -1 := by omega
      refine CE_reg ?_
      refine EL_p (Pu_as rfl) rfl ?_
      refine EL_nil ?_
      exact ⟨rfl, rfl, rfl, trivial⟩
    · refine CE_skip ?_
      exact ⟨rfl, rfl, rfl, trivial⟩
  refine CE_midG (fun (c' : Nat → Value) => [(0, .pointer (some ⟨b, i * 8, none⟩)), (1, .int .i32 wv)]) (fun c' w' => RepT ⟨r.blk, r.len, r.cap, c'⟩ (setT (fun c => { c with fs := if c.fr ≠ -2 ∧ c.fr ≠ wv then true else c.fs }) i l) ∧ HP W0 w' (L.set j (Fam nt 8 68 (updR R t ⟨r.blk, r.len, r.cap, c'⟩)))) ?_ (fun c' w2 hmid => ?_)
  · refine CE_seq ?_
    refine CE_reg ?_
    refine EL_p (Pu_mv rfl) rfl ?_
    refine EL_p (Pu_nil rfl) rfl ?_
    refine EL_p (Pu_fld rfl fi68_6) rfl ?_
    refine EL_ld rfl fl21 ((H.ucell hj ht hb (i := i * 8 + 6) (by omega)).trans (congrArg some (hR.gfr hi))) rfl ?_
    refine EL_p (Pu_neq rfl rfl) rfl ?_
    refine EL_p (Pu_mv rfl) rfl ?_
    refine EL_gN rfl rfl (fun g11 => ?_) (fun g11 => ?_)
    · refine EL_yes rfl rfl ?_
      refine EL_p (Pu_mv rfl) rfl ?_
      refine EL_yes rfl rfl ?_
      refine EL_p (Pu_nil rfl) rfl ?_
      refine EL_yes rfl rfl ?_
      refine EL_p (Pu_fld rfl fi68_6) rfl ?_
      refine EL_yes rfl rfl ?_
      refine EL_ld rfl fl21 ((H.ucell hj ht hb (i := i * 8 + 6) (by omega)).trans (congrArg some (hR.gfr hi))) rfl ?_
      refine EL_yes rfl rfl ?_
      refine EL_p (Pu_mv rfl) rfl ?_
      refine EL_yes rfl rfl ?_
      refine EL_p (Pu_neq rfl rfl) rfl ?_
      refine EL_p (Pu_pt rfl rfl) rfl ?_
      refine EL_nil ?_
      refine CE_cN rfl (fun c18 => ?_) (fun c18 => ?_)
      · refine CE_reg ?_
        refine EL_p (Pu_mv rfl) rfl ?_
        refine EL_p (Pu_nil rfl) rfl ?_
        refine EL_p (Pu_fld rfl fi68_7) rfl ?_
        refine EL_L0 (Lo_ust (i := i * 8 + 7) H hj ht hb rfl rfl fl4 rfl (by omega) (fun w1 H1 => ?_))
        refine EL_nil ?_
        refine ⟨_, ⟨?_, H1⟩, rfl, rfl, trivial⟩
        have h1 := hR.fs hi true
        rw [setT_congr (fun c => { c with fs := true }) (fun c => { c with fs := if c.fr ≠ -2 ∧ c.fr ≠ wv then true else c.fs }) (newT 0)] at h1
        · exact h1
        · rw [if_pos ⟨g11, c18⟩]
      · refine CE_skip ?_
        refine ⟨r.c, ⟨?_, H.usame hj⟩, rfl, rfl, trivial⟩
        rw [setT_id _ (newT 0)]
        · exact hR
        · rw [if_neg (fun hh => hh.2 c18)]
    · refine EL_no rfl rfl rfl rfl ?_
      refine EL_no rfl rfl rfl rfl ?_
      refine EL_no rfl rfl rfl rfl ?_
      refine EL_no rfl rfl rfl rfl ?_
      refine EL_no rfl rfl rfl rfl ?_
      refine EL_no rfl rfl rfl rfl ?_
      refine EL_p (Pu_pf rfl rfl) rfl ?_
      refine EL_nil ?_
      refine CE_cond_f rfl ?_
      refine CE_skip ?_
      refine ⟨r.c, ⟨?_, H.usame hj⟩, rfl, rfl, trivial⟩
      rw [setT_id _ (newT 0)]
      · exact hR
      · rw [if_neg (fun hh => hh.1 g11)]
  obtain ⟨hR2, H2⟩ := hmid
  have hlen2 : (setT (fun c => { c with fs := if c.fr ≠ -2 ∧ c.fr ≠ wv then true else c.fs }) i l).length = l.length := setT_length _ _ _
  refine CE_reg ?_
  refine EL_p (Pu_mv rfl) rfl ?_
  refine EL_p (Pu_mv rfl) rfl ?_
  refine EL_p (Pu_nil rfl) rfl ?_
  refine EL_p (Pu_fld rfl fi68_6) rfl ?_
  refine EL_L0 (Lo_ust (i := i * 8 + 6) H2 (set_at hj) ht hb rfl rfl fl21 rfl (show i * 8 + 6 < r.len * 8 by omega) (fun w3 H3 => ?_))
  rw [List.set_set] at H3
  refine EL_nil ?_
  refine ⟨_, rfl, rfl, _, ?_, H3⟩
  have h3 := hR2.fr (i := i) (by omega) wv
  rw [setT_setT] at h3
  exact h3
end Go.Proofs.Qxb6602549a
