/-
  The graph in memory, by membership; the small readers; ZZNewGraph.
-/
import Derived.Test.Qxb6602549aNG
import Derived.Test.Qxb6602549aLaws
namespace Go.Proofs.Qxb6602549a
open Go Go.RowKit
set_option linter.unusedSimpArgs false
set_option linter.unusedVariables false

structure GB where
  gb : Nat
  ab : Nat
  wb : Nat
  tb : Nat
  ub : Nat
  z0 : Bool
  b0 : Nat

structure GM (h : HRec) (G : GRows) (B : GB) (M : List Chunk) : Prop where
  inl : InL h M
  act : Arr B.z0 B.b0 h.n (fun p => .int .u8 (h.A p)) ∈ M
  g : Blk B.gb 6 (cellsF (gcl h (G.Rl 0).val B.ab B.wb B.tb B.ub)) ∈ M
  a : Blk B.ab h.m (hdr G.Ra) ∈ M
  w : Blk B.wb h.m (hdr G.Rw) ∈ M
  t : Blk B.tb h.nt (hdr G.Rt) ∈ M
  o : Blk B.ub h.nt (hdr G.Ro) ∈ M
  fa : Fam h.m 1 21 G.Ra ∈ M
  fw : Fam h.m 1 21 G.Rw ∈ M
  ft : Fam h.nt 8 68 G.Rt ∈ M
  fo : Fam h.nt 1 21 G.Ro ∈ M
  fl : Fam 1 1 21 G.Rl ∈ M

theorem GM.cons {h : HRec} {G : GRows} {B : GB} {M : List Chunk} (x : GM h G B M) (c : Chunk) : GM h G B (c :: M) :=
  ⟨x.inl.cons c, List.mem_cons_of_mem _ x.act, List.mem_cons_of_mem _ x.g, List.mem_cons_of_mem _ x.a, List.mem_cons_of_mem _ x.w, List.mem_cons_of_mem _ x.t, List.mem_cons_of_mem _ x.o, List.mem_cons_of_mem _ x.fa, List.mem_cons_of_mem _ x.fw, List.mem_cons_of_mem _ x.ft, List.mem_cons_of_mem _ x.fo, List.mem_cons_of_mem _ x.fl⟩

theorem GM.ofGL {h : HRec} {G : GRows} {gb ab wb tb ub b0 : Nat} {z0 : Bool} {L : List Chunk} (hin : InL h L) (ha : Arr z0 b0 h.n (fun p => .int .u8 (h.A p)) ∈ L) : GM h G ⟨gb, ab, wb, tb, ub, z0, b0⟩ (GL h G gb ab wb tb ub L) := by
  refine ⟨((((((((((hin.cons _).cons _).cons _).cons _).cons _).cons _).cons _).cons _).cons _).cons _), ?_, ?_, ?_, ?_, ?_, ?_, ?_, ?_, ?_, ?_, ?_⟩
  · unfold GL; simp only [List.mem_cons]; exact .inr (.inr (.inr (.inr (.inr (.inr (.inr (.inr (.inr (.inr ha)))))))))
  · exact List.mem_of_getElem? (i := 5) rfl
  · exact List.mem_of_getElem? (i := 6) rfl
  · exact List.mem_of_getElem? (i := 7) rfl
  · exact List.mem_of_getElem? (i := 8) rfl
  · exact List.mem_of_getElem? (i := 9) rfl
  · exact List.mem_of_getElem? (i := 3) rfl
  · exact List.mem_of_getElem? (i := 2) rfl
  · exact List.mem_of_getElem? (i := 1) rfl
  · exact List.mem_of_getElem? (i := 0) rfl
  · exact List.mem_of_getElem? (i := 4) rfl

section
variable {W0 w : World} {L : List Chunk} {m es x i b : Nat} {T : TypeId} {R : Nat → Row}
theorem HP.rblkM (H : HP W0 w L) (hm : Fam m es T R ∈ L) (hx : x < m) (hl : 0 < (R x).len) : ∃ b, (R x).blk = some b ∧ (R x).val = .slice (some ⟨b, 0, none⟩) (R x).len (R x).cap := by
  obtain ⟨j, hj⟩ := List.getElem?_of_mem hm
  exact H.rblk hj hx hl
theorem HP.rcellM (H : HP W0 w L) (hm : Fam m es T R ∈ L) (hx : x < m) (hb : (R x).blk = some b) (hi : i < (R x).len * es) : w.cell? ⟨b, i, none⟩ = some ((R x).c i) := by
  obtain ⟨j, hj⟩ := List.getElem?_of_mem hm
  exact H.rcell hj hx hb hi
end

/-- the history without its ends -/
theorem HP.hist6 {W0 w : World} {hb ob n nt m ne : Nat} {z0 z1 z2 z3 z5 z6 : Bool} {b0 b1 b2 b3 b5 b6 : Nat} {A X T I E : Nat → Int} {B : Nat → Bool} (H : HP W0 w [Blk hb 7 (cellsF [.slice (some ⟨ob, 0, none⟩) n n, aval z1 b1 nt, aval z2 b2 n, aval z3 b3 n, .int .i64 m, aval z5 b5 nt, aval z6 b6 ne]), Blk ob (n * 3) (opsF A),
      Arr z6 b6 ne (fun i => .int .i64 (E i)), Arr z5 b5 nt (fun i => .bool (B i)), Arr z3 b3 n (fun i => .int .i32 (I i)), Arr z2 b2 n (fun i => .int .i32 (T i)), Arr z1 b1 nt (fun i => .int .i64 (X i)), Arr z0 b0 n (fun i => .int .u8 (A i))])
    (ok : ∀ p, p < n → 0 ≤ T p) :
    ∃ L, HP W0 w L ∧ InL (mkH hb ob n nt m z1 b1 z2 b2 z3 b3 z5 b5 (aval z6 b6 ne) A X T I B) L ∧ Arr z0 b0 n (fun i => .int .u8 (A i)) ∈ L := by
  have H1 := H.acongr (j := 5) rfl (g := fun p => .int .i32 ((T p).toNat : Nat)) (fun i hi => by
    have := ok i hi
    simp only [Int.toNat_of_nonneg this])
  refine ⟨_, H1, ⟨?_, ?_, ?_, ?_, ?_⟩, ?_⟩
  · exact List.mem_of_getElem? (i := 0) rfl
  · exact List.mem_of_getElem? (i := 1) rfl
  · exact List.mem_of_getElem? (i := 5) rfl
  · exact List.mem_of_getElem? (i := 4) rfl
  · exact List.mem_of_getElem? (i := 3) rfl
  · exact List.mem_of_getElem? (i := 7) rfl

theorem newGraph23 {W0 w : World} {L : List Chunk} {h : HRec} (H : HP W0 w L) (hin : InL h L) (ho : HOK h) :
    Calls Try.prog 23 #[.pointer (some ⟨h.hb, 0, none⟩)] w fun x w' => ∃ gb ab wb tb ub G, x = .returned (.pointer (some ⟨gb, 0, none⟩)) ∧ GInv h G ∧ HP W0 w' (GL h G gb ab wb tb ub L) := by
  refine calls_CE Try.func23 rfl Try.ntmps23 rfl rfl ?_
  refine CE_seq ?_
  refine CE_reg ?_
  refine EL_p (Pu_as rfl) rfl ?_
  refine EL_nil ?_
  refine CE_seq ?_
  refine CE_reg ?_
  refine EL_p (Pu_mv rfl) rfl ?_
  refine EL_L rfl (Lo_call ca41 rfl ((newGraph41 H hin ho).mono (fun y w1 hh => ?_)))
  obtain ⟨gb, ab, wb, tb, ub, G, hy, hg, H1⟩ := hh
  refine ⟨_, hy, ?_⟩
  refine EL_p (Pu_as rfl) rfl ?_
  refine EL_nil ?_
  refine CE_ret ?_
  exact ⟨_, rfl, gb, ab, wb, tb, ub, G, rfl, hg, H1⟩

theorem out24 {W0 w : World} {M : List Chunk} {h : HRec} {G : GRows} {B : GB} (H : HP W0 w M) (gm : GM h G B M) :
    Calls Try.prog 24 #[.pointer (some ⟨B.gb, 0, none⟩)] w fun x w' => x = .returned (.slice (some ⟨B.ub, 0, none⟩) h.nt h.nt) ∧ HP W0 w' M := by
  refine calls_CE Try.func24 rfl Try.ntmps24 rfl rfl ?_
  refine CE_seq ?_
  refine CE_reg ?_
  refine EL_p (Pu_as rfl) rfl ?_
  refine EL_nil ?_
  refine CE_seq ?_
  refine CE_reg ?_
  refine EL_p (Pu_mv rfl) rfl ?_
  refine EL_p (Pu_nil rfl) rfl ?_
  refine EL_p (Pu_fld rfl fi65_5) rfl ?_
  refine EL_ld rfl fl41 (H.cellM gm.g (by decide)) rfl ?_
  refine EL_p (Pu_as rfl) rfl ?_
  refine EL_nil ?_
  refine CE_ret ?_
  exact ⟨_, rfl, rfl, H⟩
theorem acc26 {W0 w : World} {M : List Chunk} {h : HRec} {G : GRows} {B : GB} (H : HP W0 w M) (gm : GM h G B M) :
    Calls Try.prog 26 #[.pointer (some ⟨B.gb, 0, none⟩)] w fun x w' => x = .returned (.slice (some ⟨B.ab, 0, none⟩) h.m h.m) ∧ HP W0 w' M := by
  refine calls_CE Try.func26 rfl Try.ntmps26 rfl rfl ?_
  refine CE_seq ?_
  refine CE_reg ?_
  refine EL_p (Pu_as rfl) rfl ?_
  refine EL_nil ?_
  refine CE_seq ?_
  refine CE_reg ?_
  refine EL_p (Pu_mv rfl) rfl ?_
  refine EL_p (Pu_nil rfl) rfl ?_
  refine EL_p (Pu_fld rfl fi65_2) rfl ?_
  refine EL_ld rfl fl41 (H.cellM gm.g (by decide)) rfl ?_
  refine EL_p (Pu_as rfl) rfl ?_
  refine EL_nil ?_
  refine CE_ret ?_
  exact ⟨_, rfl, rfl, H⟩
theorem wrs27 {W0 w : World} {M : List Chunk} {h : HRec} {G : GRows} {B : GB} (H : HP W0 w M) (gm : GM h G B M) :
    Calls Try.prog 27 #[.pointer (some ⟨B.gb, 0, none⟩)] w fun x w' => x = .returned (.slice (some ⟨B.wb, 0, none⟩) h.m h.m) ∧ HP W0 w' M := by
  refine calls_CE Try.func27 rfl Try.ntmps27 rfl rfl ?_
  refine CE_seq ?_
  refine CE_reg ?_
  refine EL_p (Pu_as rfl) rfl ?_
  refine EL_nil ?_
  refine CE_seq ?_
  refine CE_reg ?_
  refine EL_p (Pu_mv rfl) rfl ?_
  refine EL_p (Pu_nil rfl) rfl ?_
  refine EL_p (Pu_fld rfl fi65_3) rfl ?_
  refine EL_ld rfl fl41 (H.cellM gm.g (by decide)) rfl ?_
  refine EL_p (Pu_as rfl) rfl ?_
  refine EL_nil ?_
  refine CE_ret ?_
  exact ⟨_, rfl, rfl, H⟩
theorem tlen28 {W0 w : World} {M : List Chunk} {h : HRec} {G : GRows} {B : GB} (H : HP W0 w M) (gm : GM h G B M) :
    Calls Try.prog 28 #[.pointer (some ⟨B.gb, 0, none⟩)] w fun x w' => x = .returned (.int .i64 h.nt) ∧ HP W0 w' M := by
  refine calls_CE Try.func28 rfl Try.ntmps28 rfl rfl ?_
  refine CE_seq ?_
  refine CE_reg ?_
  refine EL_p (Pu_as rfl) rfl ?_
  refine EL_nil ?_
  refine CE_seq ?_
  refine CE_reg ?_
  refine EL_p (Pu_mv rfl) rfl ?_
  refine EL_p (Pu_nil rfl) rfl ?_
  refine EL_p (Pu_fld rfl fi65_4) rfl ?_
  refine EL_ld rfl fl63 (H.cellM gm.g (by decide)) rfl ?_
  refine EL_p (Pu_len rfl sl63 rfl) rfl ?_
  refine EL_p (Pu_as rfl) rfl ?_
  refine EL_nil ?_
  refine CE_ret ?_
  exact ⟨_, rfl, rfl, H⟩
theorem gh33 {W0 w : World} {M : List Chunk} {h : HRec} {G : GRows} {B : GB} (H : HP W0 w M) (gm : GM h G B M) :
    Calls Try.prog 33 #[.pointer (some ⟨B.gb, 0, none⟩)] w fun x w' => x = .returned (.pointer (some ⟨h.hb, 0, none⟩)) ∧ HP W0 w' M := by
  refine calls_CE Try.func33 rfl Try.ntmps33 rfl rfl ?_
  refine CE_seq ?_
  refine CE_reg ?_
  refine EL_p (Pu_as rfl) rfl ?_
  refine EL_nil ?_
  refine CE_seq ?_
  refine CE_reg ?_
  refine EL_p (Pu_mv rfl) rfl ?_
  refine EL_p (Pu_nil rfl) rfl ?_
  refine EL_p (Pu_fld rfl fi65_0) rfl ?_
  refine EL_ld rfl fl33 (H.cellM gm.g (by decide)) rfl ?_
  refine EL_p (Pu_as rfl) rfl ?_
  refine EL_nil ?_
  refine CE_ret ?_
  exact ⟨_, rfl, rfl, H⟩
theorem live35 {W0 w : World} {M : List Chunk} {h : HRec} {G : GRows} {B : GB} (H : HP W0 w M) (gm : GM h G B M) :
    Calls Try.prog 35 #[.pointer (some ⟨B.gb, 0, none⟩)] w fun x w' => x = .returned ((G.Rl 0).val) ∧ HP W0 w' M := by
  refine calls_CE Try.func35 rfl Try.ntmps35 rfl rfl ?_
  refine CE_seq ?_
  refine CE_reg ?_
  refine EL_p (Pu_as rfl) rfl ?_
  refine EL_nil ?_
  refine CE_seq ?_
  refine CE_reg ?_
  refine EL_p (Pu_mv rfl) rfl ?_
  refine EL_p (Pu_nil rfl) rfl ?_
  refine EL_p (Pu_fld rfl fi65_1) rfl ?_
  refine EL_ld rfl fl24 (H.cellM gm.g (by decide)) rfl ?_
  refine EL_p (Pu_as rfl) rfl ?_
  refine EL_nil ?_
  refine CE_ret ?_
  exact ⟨_, rfl, rfl, H⟩
theorem tcount29 {W0 w : World} {M : List Chunk} {h : HRec} {G : GRows} {B : GB} {t : Nat} (H : HP W0 w M) (gm : GM h G B M) (ht : t < h.nt) :
    Calls Try.prog 29 #[.pointer (some ⟨B.gb, 0, none⟩), .int .i64 t] w fun x w' => x = .returned (.int .i64 (G.Rt t).len) ∧ HP W0 w' M := by
  refine calls_CE Try.func29 rfl Try.ntmps29 rfl rfl ?_
  refine CE_seq ?_
  refine CE_reg ?_
  refine EL_p (Pu_as rfl) rfl ?_
  refine EL_nil ?_
  refine CE_seq ?_
  refine CE_reg ?_
  refine EL_p (Pu_mv rfl) rfl ?_
  refine EL_p (Pu_nil rfl) rfl ?_
  refine EL_p (Pu_fld rfl fi65_4) rfl ?_
  first | (refine EL_ld rfl fl63 (H.cellM gm.g (by decide)) rfl ?_) | (refine EL_ld rfl fl63 (H.cellM gm.t ht) rfl ?_)
  refine EL_p (Pu_mv rfl) rfl ?_
  refine EL_p (Pu_ix rfl rfl sl63 rfl ht) rfl ?_
  first | (refine EL_ld rfl fl66 (H.cellM gm.g (by decide)) rfl ?_) | (refine EL_ld rfl fl66 (H.cellM gm.t ht) rfl ?_)
  refine EL_p (Pu_len rfl sl66 rfl) rfl ?_
  refine EL_p (Pu_as rfl) rfl ?_
  refine EL_nil ?_
  refine CE_ret ?_
  exact ⟨_, rfl, rfl, H⟩

structure GS3 where
  h : HRec
  G : GRows
  B : GB
end Go.Proofs.Qxb6602549a
