/-
  Facts on the types and functions of this program, each by the kernel.
-/
import Derived.Test.Qxb6602549aProg
import Derived.Test.Qxb6602549aHeap2
import Derived.KernelRfl
namespace Go.Proofs.Qxb6602549a
open Go Go.RowKit

theorem parts {P : Program} {t : TypeId} {z : Value} {n b : Nat} (h : (P.info? t).map (fun i => (i.zero, i.size, i.bytes)) = some (some z, n, b)) : ∃ i, P.info? t = some i ∧ i.zero = some z ∧ i.size = n ∧ i.bytes = b := by
  cases hi : P.info? t with
  | none => rw [hi] at h; simp at h
  | some i =>
    rw [hi] at h
    simp at h
    exact ⟨i, rfl, h.1, h.2.1, h.2.2⟩
theorem sizeT {P : Program} {t : TypeId} {z : Value} {n b : Nat} (h : (P.info? t).map (fun i => (i.zero, i.size, i.bytes)) = some (some z, n, b)) : SizeT P t n := by
  obtain ⟨i, h1, _, h3, _⟩ := parts h
  exact ⟨i, h1, h3⟩
theorem zeroT {P : Program} {t : TypeId} {z : Value} {n b : Nat} (h : (P.info? t).map (fun i => (i.zero, i.size, i.bytes)) = some (some z, n, b)) (hz : z.cells.size = n) : ZeroT P t z n b := by
  obtain ⟨i, h1, h2, h3, h4⟩ := parts h
  exact ⟨i, h1, h2, h3, h4, hz⟩

theorem mixed : Try.prog.follows .mixedOrders = true := by kernel_rfl
theorem inf3 : (Try.prog.info? 3).map (fun i => (i.zero, i.size, i.bytes)) = some (some (.int .i64 0), 1, 8) := by kernel_rfl
theorem inf4 : (Try.prog.info? 4).map (fun i => (i.zero, i.size, i.bytes)) = some (some (.bool false), 1, 1) := by kernel_rfl
theorem inf5 : (Try.prog.info? 5).map (fun i => (i.zero, i.size, i.bytes)) = some (some (.int .u8 0), 1, 1) := by kernel_rfl
theorem inf9 : (Try.prog.info? 9).map (fun i => (i.zero, i.size, i.bytes)) = some (some (.string ByteArray.empty), 1, 16) := by kernel_rfl
theorem inf21 : (Try.prog.info? 21).map (fun i => (i.zero, i.size, i.bytes)) = some (some (.int .i32 0), 1, 4) := by kernel_rfl
theorem inf22 : (Try.prog.info? 22).map (fun i => (i.zero, i.size, i.bytes)) = some (some (.slice none 0 0), 1, 24) := by kernel_rfl
theorem inf23 : (Try.prog.info? 23).map (fun i => (i.zero, i.size, i.bytes)) = some (some (.slice none 0 0), 1, 24) := by kernel_rfl
theorem inf24 : (Try.prog.info? 24).map (fun i => (i.zero, i.size, i.bytes)) = some (some (.slice none 0 0), 1, 24) := by kernel_rfl
theorem inf25 : (Try.prog.info? 25).map (fun i => (i.zero, i.size, i.bytes)) = some (some (.slice none 0 0), 1, 24) := by kernel_rfl
theorem inf33 : (Try.prog.info? 33).map (fun i => (i.zero, i.size, i.bytes)) = some (some (.pointer none), 1, 8) := by kernel_rfl
theorem inf39 : (Try.prog.info? 39).map (fun i => (i.zero, i.size, i.bytes)) = some (some (.pointer none), 1, 8) := by kernel_rfl
theorem inf41 : (Try.prog.info? 41).map (fun i => (i.zero, i.size, i.bytes)) = some (some (.slice none 0 0), 1, 24) := by kernel_rfl
theorem inf54 : (Try.prog.info? 54).map (fun i => (i.zero, i.size, i.bytes)) = some (some (.slice none 0 0), 1, 24) := by kernel_rfl
theorem inf55 : (Try.prog.info? 55).map (fun i => (i.zero, i.size, i.bytes)) = some (some (.int .u8 0), 1, 1) := by kernel_rfl
theorem inf57 : (Try.prog.info? 57).map (fun i => (i.zero, i.size, i.bytes)) = some (some (.agg #[.int .u8 0, .int .i64 0, .string ByteArray.empty]), 3, 32) := by kernel_rfl
theorem inf63 : (Try.prog.info? 63).map (fun i => (i.zero, i.size, i.bytes)) = some (some (.slice none 0 0), 1, 24) := by kernel_rfl
theorem inf66 : (Try.prog.info? 66).map (fun i => (i.zero, i.size, i.bytes)) = some (some (.slice none 0 0), 1, 24) := by kernel_rfl
theorem inf68 : (Try.prog.info? 68).map (fun i => (i.zero, i.size, i.bytes)) = some (some (.agg #[.int .i32 0, .int .i32 0, .int .i32 0, .int .i32 0, .int .i32 0, .bool false, .int .i32 0, .bool false]), 8, 32) := by kernel_rfl
theorem inf69 : (Try.prog.info? 69).map (fun i => (i.zero, i.size, i.bytes)) = some (some (.slice none 0 0), 1, 24) := by kernel_rfl
theorem inf71 : (Try.prog.info? 71).map (fun i => (i.zero, i.size, i.bytes)) = some (some (.agg #[.int .i32 0, .int .i32 0]), 2, 8) := by kernel_rfl
theorem inf72 : (Try.prog.info? 72).map (fun i => (i.zero, i.size, i.bytes)) = some (some (.agg #[.int .i64 0, .int .i64 0]), 2, 16) := by kernel_rfl
theorem inf74 : (Try.prog.info? 74).map (fun i => (i.zero, i.size, i.bytes)) = some (some (.agg #[.int .i32 0, .int .i32 0, .int .i64 0, .int .i64 0]), 4, 24) := by kernel_rfl
theorem inf76 : (Try.prog.info? 76).map (fun i => (i.zero, i.size, i.bytes)) = some (some (.agg #[.slice none 0 0, .int .i32 0, .int .i32 0, .int .i64 0, .int .i64 0, .int .i32 0, .int .i32 0, .int .i64 0, .int .i64 0]), 9, 72) := by kernel_rfl
theorem inf81 : (Try.prog.info? 81).map (fun i => (i.zero, i.size, i.bytes)) = some (some (.slice none 0 0), 1, 24) := by kernel_rfl
theorem inf83 : (Try.prog.info? 83).map (fun i => (i.zero, i.size, i.bytes)) = some (some (.agg #[.int .i32 0, .slice none 0 0]), 2, 32) := by kernel_rfl
theorem inf84 : (Try.prog.info? 84).map (fun i => (i.zero, i.size, i.bytes)) = some (some (.map none), 1, 8) := by kernel_rfl
theorem inf85 : (Try.prog.info? 85).map (fun i => (i.zero, i.size, i.bytes)) = some (some (.int .u64 0), 1, 8) := by kernel_rfl
theorem inf86 : (Try.prog.info? 86).map (fun i => (i.zero, i.size, i.bytes)) = some (some (.int .u64 0), 1, 8) := by kernel_rfl
theorem fl3 : Flat Try.prog 3 := ⟨⟨_, Try.underlying3, trivial⟩, sizeT inf3⟩
theorem fl4 : Flat Try.prog 4 := ⟨⟨_, Try.underlying4, trivial⟩, sizeT inf4⟩
theorem fl5 : Flat Try.prog 5 := ⟨⟨_, Try.underlying5, trivial⟩, sizeT inf5⟩
theorem fl9 : Flat Try.prog 9 := ⟨⟨_, Try.underlying9, trivial⟩, sizeT inf9⟩
theorem fl21 : Flat Try.prog 21 := ⟨⟨_, Try.underlying21, trivial⟩, sizeT inf21⟩
theorem fl22 : Flat Try.prog 22 := ⟨⟨_, Try.underlying22, trivial⟩, sizeT inf22⟩
theorem fl23 : Flat Try.prog 23 := ⟨⟨_, Try.underlying23, trivial⟩, sizeT inf23⟩
theorem fl24 : Flat Try.prog 24 := ⟨⟨_, Try.underlying24, trivial⟩, sizeT inf24⟩
theorem fl25 : Flat Try.prog 25 := ⟨⟨_, Try.underlying25, trivial⟩, sizeT inf25⟩
theorem fl33 : Flat Try.prog 33 := ⟨⟨_, Try.underlying33, trivial⟩, sizeT inf33⟩
theorem fl39 : Flat Try.prog 39 := ⟨⟨_, Try.underlying39, trivial⟩, sizeT inf39⟩
theorem fl41 : Flat Try.prog 41 := ⟨⟨_, Try.underlying41, trivial⟩, sizeT inf41⟩
theorem fl54 : Flat Try.prog 54 := ⟨⟨_, Try.underlying54, trivial⟩, sizeT inf54⟩
theorem fl55 : Flat Try.prog 55 := ⟨⟨_, Try.underlying55, trivial⟩, sizeT inf55⟩
theorem fl63 : Flat Try.prog 63 := ⟨⟨_, Try.underlying63, trivial⟩, sizeT inf63⟩
theorem fl66 : Flat Try.prog 66 := ⟨⟨_, Try.underlying66, trivial⟩, sizeT inf66⟩
theorem fl69 : Flat Try.prog 69 := ⟨⟨_, Try.underlying69, trivial⟩, sizeT inf69⟩
theorem fl81 : Flat Try.prog 81 := ⟨⟨_, Try.underlying81, trivial⟩, sizeT inf81⟩
theorem fl84 : Flat Try.prog 84 := ⟨⟨_, Try.underlying84, trivial⟩, sizeT inf84⟩
theorem fl85 : Flat Try.prog 85 := ⟨⟨_, Try.underlying85, trivial⟩, sizeT inf85⟩
theorem fl86 : Flat Try.prog 86 := ⟨⟨_, Try.underlying86, trivial⟩, sizeT inf86⟩
theorem in3 : IntT Try.prog 3 .i64 := Try.underlying3
theorem in21 : IntT Try.prog 21 .i32 := Try.underlying21
theorem in5 : IntT Try.prog 5 .u8 := Try.underlying5
theorem in55 : IntT Try.prog 55 .u8 := Try.underlying55
theorem in85 : IntT Try.prog 85 .u64 := Try.underlying85
theorem in86 : IntT Try.prog 86 .u64 := Try.underlying86
theorem sl22 : SliT Try.prog 22 5 1 := ⟨Try.underlying22, sizeT inf5⟩
theorem sl23 : SliT Try.prog 23 3 1 := ⟨Try.underlying23, sizeT inf3⟩
theorem sl24 : SliT Try.prog 24 21 1 := ⟨Try.underlying24, sizeT inf21⟩
theorem sl25 : SliT Try.prog 25 4 1 := ⟨Try.underlying25, sizeT inf4⟩
theorem sl41 : SliT Try.prog 41 24 1 := ⟨Try.underlying41, sizeT inf24⟩
theorem sl54 : SliT Try.prog 54 57 3 := ⟨Try.underlying54, sizeT inf57⟩
theorem sl63 : SliT Try.prog 63 66 1 := ⟨Try.underlying63, sizeT inf66⟩
theorem sl66 : SliT Try.prog 66 68 8 := ⟨Try.underlying66, sizeT inf68⟩
theorem sl69 : SliT Try.prog 69 76 9 := ⟨Try.underlying69, sizeT inf76⟩
theorem sl81 : SliT Try.prog 81 83 2 := ⟨Try.underlying81, sizeT inf83⟩
theorem ar71 : ArrT Try.prog 71 2 21 1 := ⟨Try.underlying71, sizeT inf21⟩
theorem ar72 : ArrT Try.prog 72 2 3 1 := ⟨Try.underlying72, sizeT inf3⟩
theorem fi57_0 : FieT Try.prog 57 0 0 := ⟨_, _, Try.underlying57, rfl, rfl, (parts inf55).elim fun i h => ⟨i, h.1, by rw [h.2.2.1]; decide⟩⟩
theorem fi57_1 : FieT Try.prog 57 1 1 := ⟨_, _, Try.underlying57, rfl, rfl, (parts inf3).elim fun i h => ⟨i, h.1, by rw [h.2.2.1]; decide⟩⟩
theorem fi57_2 : FieT Try.prog 57 2 2 := ⟨_, _, Try.underlying57, rfl, rfl, (parts inf9).elim fun i h => ⟨i, h.1, by rw [h.2.2.1]; decide⟩⟩
theorem fi59_0 : FieT Try.prog 59 0 0 := ⟨_, _, Try.underlying59, rfl, rfl, (parts inf54).elim fun i h => ⟨i, h.1, by rw [h.2.2.1]; decide⟩⟩
theorem fi59_1 : FieT Try.prog 59 1 1 := ⟨_, _, Try.underlying59, rfl, rfl, (parts inf23).elim fun i h => ⟨i, h.1, by rw [h.2.2.1]; decide⟩⟩
theorem fi59_2 : FieT Try.prog 59 2 2 := ⟨_, _, Try.underlying59, rfl, rfl, (parts inf24).elim fun i h => ⟨i, h.1, by rw [h.2.2.1]; decide⟩⟩
theorem fi59_3 : FieT Try.prog 59 3 3 := ⟨_, _, Try.underlying59, rfl, rfl, (parts inf24).elim fun i h => ⟨i, h.1, by rw [h.2.2.1]; decide⟩⟩
theorem fi59_4 : FieT Try.prog 59 4 4 := ⟨_, _, Try.underlying59, rfl, rfl, (parts inf3).elim fun i h => ⟨i, h.1, by rw [h.2.2.1]; decide⟩⟩
theorem fi59_5 : FieT Try.prog 59 5 5 := ⟨_, _, Try.underlying59, rfl, rfl, (parts inf25).elim fun i h => ⟨i, h.1, by rw [h.2.2.1]; decide⟩⟩
theorem fi59_6 : FieT Try.prog 59 6 6 := ⟨_, _, Try.underlying59, rfl, rfl, (parts inf23).elim fun i h => ⟨i, h.1, by rw [h.2.2.1]; decide⟩⟩
theorem fi65_0 : FieT Try.prog 65 0 0 := ⟨_, _, Try.underlying65, rfl, rfl, (parts inf33).elim fun i h => ⟨i, h.1, by rw [h.2.2.1]; decide⟩⟩
theorem fi65_1 : FieT Try.prog 65 1 1 := ⟨_, _, Try.underlying65, rfl, rfl, (parts inf24).elim fun i h => ⟨i, h.1, by rw [h.2.2.1]; decide⟩⟩
theorem fi65_2 : FieT Try.prog 65 2 2 := ⟨_, _, Try.underlying65, rfl, rfl, (parts inf41).elim fun i h => ⟨i, h.1, by rw [h.2.2.1]; decide⟩⟩
theorem fi65_3 : FieT Try.prog 65 3 3 := ⟨_, _, Try.underlying65, rfl, rfl, (parts inf41).elim fun i h => ⟨i, h.1, by rw [h.2.2.1]; decide⟩⟩
theorem fi65_4 : FieT Try.prog 65 4 4 := ⟨_, _, Try.underlying65, rfl, rfl, (parts inf63).elim fun i h => ⟨i, h.1, by rw [h.2.2.1]; decide⟩⟩
theorem fi65_5 : FieT Try.prog 65 5 5 := ⟨_, _, Try.underlying65, rfl, rfl, (parts inf41).elim fun i h => ⟨i, h.1, by rw [h.2.2.1]; decide⟩⟩
theorem fi68_0 : FieT Try.prog 68 0 0 := ⟨_, _, Try.underlying68, rfl, rfl, (parts inf21).elim fun i h => ⟨i, h.1, by rw [h.2.2.1]; decide⟩⟩
theorem fi68_1 : FieT Try.prog 68 1 1 := ⟨_, _, Try.underlying68, rfl, rfl, (parts inf21).elim fun i h => ⟨i, h.1, by rw [h.2.2.1]; decide⟩⟩
theorem fi68_2 : FieT Try.prog 68 2 2 := ⟨_, _, Try.underlying68, rfl, rfl, (parts inf21).elim fun i h => ⟨i, h.1, by rw [h.2.2.1]; decide⟩⟩
theorem fi68_3 : FieT Try.prog 68 3 3 := ⟨_, _, Try.underlying68, rfl, rfl, (parts inf21).elim fun i h => ⟨i, h.1, by rw [h.2.2.1]; decide⟩⟩
theorem fi68_4 : FieT Try.prog 68 4 4 := ⟨_, _, Try.underlying68, rfl, rfl, (parts inf21).elim fun i h => ⟨i, h.1, by rw [h.2.2.1]; decide⟩⟩
theorem fi68_5 : FieT Try.prog 68 5 5 := ⟨_, _, Try.underlying68, rfl, rfl, (parts inf4).elim fun i h => ⟨i, h.1, by rw [h.2.2.1]; decide⟩⟩
theorem fi68_6 : FieT Try.prog 68 6 6 := ⟨_, _, Try.underlying68, rfl, rfl, (parts inf21).elim fun i h => ⟨i, h.1, by rw [h.2.2.1]; decide⟩⟩
theorem fi68_7 : FieT Try.prog 68 7 7 := ⟨_, _, Try.underlying68, rfl, rfl, (parts inf4).elim fun i h => ⟨i, h.1, by rw [h.2.2.1]; decide⟩⟩
theorem fi74_0 : FieT Try.prog 74 0 0 := ⟨_, _, Try.underlying74, rfl, rfl, (parts inf71).elim fun i h => ⟨i, h.1, by rw [h.2.2.1]; decide⟩⟩
theorem fi74_1 : FieT Try.prog 74 1 2 := ⟨_, _, Try.underlying74, rfl, rfl, (parts inf72).elim fun i h => ⟨i, h.1, by rw [h.2.2.1]; decide⟩⟩
theorem fi76_0 : FieT Try.prog 76 0 0 := ⟨_, _, Try.underlying76, rfl, rfl, (parts inf24).elim fun i h => ⟨i, h.1, by rw [h.2.2.1]; decide⟩⟩
theorem fi76_1 : FieT Try.prog 76 1 1 := ⟨_, _, Try.underlying76, rfl, rfl, (parts inf74).elim fun i h => ⟨i, h.1, by rw [h.2.2.1]; decide⟩⟩
theorem fi76_2 : FieT Try.prog 76 2 5 := ⟨_, _, Try.underlying76, rfl, rfl, (parts inf74).elim fun i h => ⟨i, h.1, by rw [h.2.2.1]; decide⟩⟩
theorem fi83_0 : FieT Try.prog 83 0 0 := ⟨_, _, Try.underlying83, rfl, rfl, (parts inf21).elim fun i h => ⟨i, h.1, by rw [h.2.2.1]; decide⟩⟩
theorem fi83_1 : FieT Try.prog 83 1 1 := ⟨_, _, Try.underlying83, rfl, rfl, (parts inf24).elim fun i h => ⟨i, h.1, by rw [h.2.2.1]; decide⟩⟩
theorem ze3 : ZeroT Try.prog 3 (.int .i64 0) 1 8 := zeroT inf3 rfl
theorem ze4 : ZeroT Try.prog 4 (.bool false) 1 1 := zeroT inf4 rfl
theorem ze5 : ZeroT Try.prog 5 (.int .u8 0) 1 1 := zeroT inf5 rfl
theorem ze9 : ZeroT Try.prog 9 (.string ByteArray.empty) 1 16 := zeroT inf9 rfl
theorem ze21 : ZeroT Try.prog 21 (.int .i32 0) 1 4 := zeroT inf21 rfl
theorem ze22 : ZeroT Try.prog 22 (.slice none 0 0) 1 24 := zeroT inf22 rfl
theorem ze23 : ZeroT Try.prog 23 (.slice none 0 0) 1 24 := zeroT inf23 rfl
theorem ze24 : ZeroT Try.prog 24 (.slice none 0 0) 1 24 := zeroT inf24 rfl
theorem ze25 : ZeroT Try.prog 25 (.slice none 0 0) 1 24 := zeroT inf25 rfl
theorem ze33 : ZeroT Try.prog 33 (.pointer none) 1 8 := zeroT inf33 rfl
theorem ze39 : ZeroT Try.prog 39 (.pointer none) 1 8 := zeroT inf39 rfl
theorem ze41 : ZeroT Try.prog 41 (.slice none 0 0) 1 24 := zeroT inf41 rfl
theorem ze54 : ZeroT Try.prog 54 (.slice none 0 0) 1 24 := zeroT inf54 rfl
theorem ze55 : ZeroT Try.prog 55 (.int .u8 0) 1 1 := zeroT inf55 rfl
theorem ze57 : ZeroT Try.prog 57 (.agg #[.int .u8 0, .int .i64 0, .string ByteArray.empty]) 3 32 := zeroT inf57 rfl
theorem ze63 : ZeroT Try.prog 63 (.slice none 0 0) 1 24 := zeroT inf63 rfl
theorem ze66 : ZeroT Try.prog 66 (.slice none 0 0) 1 24 := zeroT inf66 rfl
theorem ze68 : ZeroT Try.prog 68 (.agg #[.int .i32 0, .int .i32 0, .int .i32 0, .int .i32 0, .int .i32 0, .bool false, .int .i32 0, .bool false]) 8 32 := zeroT inf68 rfl
theorem ze69 : ZeroT Try.prog 69 (.slice none 0 0) 1 24 := zeroT inf69 rfl
theorem ze71 : ZeroT Try.prog 71 (.agg #[.int .i32 0, .int .i32 0]) 2 8 := zeroT inf71 rfl
theorem ze72 : ZeroT Try.prog 72 (.agg #[.int .i64 0, .int .i64 0]) 2 16 := zeroT inf72 rfl
theorem ze74 : ZeroT Try.prog 74 (.agg #[.int .i32 0, .int .i32 0, .int .i64 0, .int .i64 0]) 4 24 := zeroT inf74 rfl
theorem ze76 : ZeroT Try.prog 76 (.agg #[.slice none 0 0, .int .i32 0, .int .i32 0, .int .i64 0, .int .i64 0, .int .i32 0, .int .i32 0, .int .i64 0, .int .i64 0]) 9 72 := zeroT inf76 rfl
theorem ze81 : ZeroT Try.prog 81 (.slice none 0 0) 1 24 := zeroT inf81 rfl
theorem ze83 : ZeroT Try.prog 83 (.agg #[.int .i32 0, .slice none 0 0]) 2 32 := zeroT inf83 rfl
theorem ze84 : ZeroT Try.prog 84 (.map none) 1 8 := zeroT inf84 rfl
theorem ze85 : ZeroT Try.prog 85 (.int .u64 0) 1 8 := zeroT inf85 rfl
theorem ze86 : ZeroT Try.prog 86 (.int .u64 0) 1 8 := zeroT inf86 rfl
theorem ca10 : Callable Try.prog 10 := ⟨_, Try.func10, by kernel_rfl, by kernel_rfl⟩
theorem ca11 : Callable Try.prog 11 := ⟨_, Try.func11, by kernel_rfl, by kernel_rfl⟩
theorem ca12 : Callable Try.prog 12 := ⟨_, Try.func12, by kernel_rfl, by kernel_rfl⟩
theorem ca13 : Callable Try.prog 13 := ⟨_, Try.func13, by kernel_rfl, by kernel_rfl⟩
theorem ca14 : Callable Try.prog 14 := ⟨_, Try.func14, by kernel_rfl, by kernel_rfl⟩
theorem ca15 : Callable Try.prog 15 := ⟨_, Try.func15, by kernel_rfl, by kernel_rfl⟩
theorem ca16 : Callable Try.prog 16 := ⟨_, Try.func16, by kernel_rfl, by kernel_rfl⟩
theorem ca17 : Callable Try.prog 17 := ⟨_, Try.func17, by kernel_rfl, by kernel_rfl⟩
theorem ca19 : Callable Try.prog 19 := ⟨_, Try.func19, by kernel_rfl, by kernel_rfl⟩
theorem ca20 : Callable Try.prog 20 := ⟨_, Try.func20, by kernel_rfl, by kernel_rfl⟩
theorem ca21 : Callable Try.prog 21 := ⟨_, Try.func21, by kernel_rfl, by kernel_rfl⟩
theorem ca22 : Callable Try.prog 22 := ⟨_, Try.func22, by kernel_rfl, by kernel_rfl⟩
theorem ca23 : Callable Try.prog 23 := ⟨_, Try.func23, by kernel_rfl, by kernel_rfl⟩
theorem ca24 : Callable Try.prog 24 := ⟨_, Try.func24, by kernel_rfl, by kernel_rfl⟩
theorem ca25 : Callable Try.prog 25 := ⟨_, Try.func25, by kernel_rfl, by kernel_rfl⟩
theorem ca26 : Callable Try.prog 26 := ⟨_, Try.func26, by kernel_rfl, by kernel_rfl⟩
theorem ca27 : Callable Try.prog 27 := ⟨_, Try.func27, by kernel_rfl, by kernel_rfl⟩
theorem ca28 : Callable Try.prog 28 := ⟨_, Try.func28, by kernel_rfl, by kernel_rfl⟩
theorem ca29 : Callable Try.prog 29 := ⟨_, Try.func29, by kernel_rfl, by kernel_rfl⟩
theorem ca30 : Callable Try.prog 30 := ⟨_, Try.func30, by kernel_rfl, by kernel_rfl⟩
theorem ca31 : Callable Try.prog 31 := ⟨_, Try.func31, by kernel_rfl, by kernel_rfl⟩
theorem ca32 : Callable Try.prog 32 := ⟨_, Try.func32, by kernel_rfl, by kernel_rfl⟩
theorem ca33 : Callable Try.prog 33 := ⟨_, Try.func33, by kernel_rfl, by kernel_rfl⟩
theorem ca34 : Callable Try.prog 34 := ⟨_, Try.func34, by kernel_rfl, by kernel_rfl⟩
theorem ca35 : Callable Try.prog 35 := ⟨_, Try.func35, by kernel_rfl, by kernel_rfl⟩
theorem ca36 : Callable Try.prog 36 := ⟨_, Try.func36, by kernel_rfl, by kernel_rfl⟩
theorem ca37 : Callable Try.prog 37 := ⟨_, Try.func37, by kernel_rfl, by kernel_rfl⟩
theorem ca38 : Callable Try.prog 38 := ⟨_, Try.func38, by kernel_rfl, by kernel_rfl⟩
theorem ca41 : Callable Try.prog 41 := ⟨_, Try.func41, by kernel_rfl, by kernel_rfl⟩
theorem ca42 : Callable Try.prog 42 := ⟨_, Try.func42, by kernel_rfl, by kernel_rfl⟩
theorem ca43 : Callable Try.prog 43 := ⟨_, Try.func43, by kernel_rfl, by kernel_rfl⟩
theorem ca44 : Callable Try.prog 44 := ⟨_, Try.func44, by kernel_rfl, by kernel_rfl⟩
theorem ca46 : Callable Try.prog 46 := ⟨_, Try.func46, by kernel_rfl, by kernel_rfl⟩
theorem ca47 : Callable Try.prog 47 := ⟨_, Try.func47, by kernel_rfl, by kernel_rfl⟩
theorem inf59 : (Try.prog.info? 59).map (fun i => (i.zero, i.size, i.bytes)) = some (some (.agg #[.slice none 0 0, .slice none 0 0, .slice none 0 0, .slice none 0 0, .int .i64 0, .slice none 0 0, .slice none 0 0]), 7, 152) := by kernel_rfl
theorem ze59 : ZeroT Try.prog 59 (.agg #[.slice none 0 0, .slice none 0 0, .slice none 0 0, .slice none 0 0, .int .i64 0, .slice none 0 0, .slice none 0 0]) 7 152 := zeroT inf59 rfl
theorem inf65 : (Try.prog.info? 65).map (fun i => (i.zero, i.size, i.bytes)) = some (some (.agg #[.pointer none, .slice none 0 0, .slice none 0 0, .slice none 0 0, .slice none 0 0, .slice none 0 0]), 6, 128) := by kernel_rfl
theorem ze65 : ZeroT Try.prog 65 (.agg #[.pointer none, .slice none 0 0, .slice none 0 0, .slice none 0 0, .slice none 0 0, .slice none 0 0]) 6 128 := zeroT inf65 rfl

theorem run_sizeOf {P : Program} {t : TypeId} {n : Nat} (h : SizeT P t n) (w : World) : (sizeOf t).run P w = .ok n w := by
  obtain ⟨i, h1, h2⟩ := h
  simp [sizeOf, typeInfo, program, Sem.run, h1, h2]
theorem run_zeroValue {P : Program} {t : TypeId} {z : Value} {n b : Nat} (h : ZeroT P t z n b) (w : World) : (zeroValue t).run P w = .ok z w := by
  obtain ⟨i, h1, h2, _⟩ := h
  simp [zeroValue, typeInfo, program, Sem.run, h1, h2]

section
variable {N : Nat} {e : Env} {ty : TypeId} {x0 x1 x2 x3 x4 x5 x6 : Operand} {v0 v1 v2 v3 v4 v5 v6 : Value}
theorem Pu_build59 (h0 : opv e x0 = some v0) (h1 : opv e x1 = some v1) (h2 : opv e x2 = some v2) (h3 : opv e x3 = some v3) (h4 : opv e x4 = some v4) (h5 : opv e x5 = some v5) (h6 : opv e x6 = some v6)
    (c0 : v0.cells = #[v0]) (c1 : v1.cells = #[v1]) (c2 : v2.cells = #[v2]) (c3 : v3.cells = #[v3]) (c4 : v4.cells = #[v4]) (c5 : v5.cells = #[v5]) (c6 : v6.cells = #[v6]) :
    Pu Try.prog N (.build 59 #[(0, x0), (1, x1), (2, x2), (3, x3), (4, x4), (5, x5), (6, x6)]) ty e (.agg #[v0, v1, v2, v3, v4, v5, v6]) := by
  refine ⟨fun a ha dst pos af g w => ?_⟩
  simp only [execOp, List.map_toArray, List.map_cons, List.map_nil, ha.eval h0, ha.eval h1, ha.eval h2, ha.eval h3, ha.eval h4, ha.eval h5, ha.eval h6, Instr.build, Sem.run_bind, run_zeroValue ze59, Result.andThen_ok, run_underlying Try.underlying59, Value.cells,
    List.mapM_toArray, List.mapM_cons, List.mapM_nil, run_sizeOf (sizeT inf54), run_sizeOf (sizeT inf23), run_sizeOf (sizeT inf24), run_sizeOf (sizeT inf3), run_sizeOf (sizeT inf25), Sem.run_pure, Sem.run_map]
  simp [Instr.fill, c0, c1, c2, c3, c4, c5, c6]
theorem Pu_build65 (h0 : opv e x0 = some v0) (h2 : opv e x2 = some v2) (h3 : opv e x3 = some v3) (h4 : opv e x4 = some v4) (h5 : opv e x5 = some v5)
    (c0 : v0.cells = #[v0]) (c2 : v2.cells = #[v2]) (c3 : v3.cells = #[v3]) (c4 : v4.cells = #[v4]) (c5 : v5.cells = #[v5]) :
    Pu Try.prog N (.build 65 #[(0, x0), (2, x2), (3, x3), (4, x4), (5, x5)]) ty e (.agg #[v0, .slice none 0 0, v2, v3, v4, v5]) := by
  refine ⟨fun a ha dst pos af g w => ?_⟩
  simp only [execOp, List.map_toArray, List.map_cons, List.map_nil, ha.eval h0, ha.eval h2, ha.eval h3, ha.eval h4, ha.eval h5, Instr.build, Sem.run_bind, run_zeroValue ze65, Result.andThen_ok, run_underlying Try.underlying65, Value.cells,
    List.mapM_toArray, List.mapM_cons, List.mapM_nil, run_sizeOf (sizeT inf33), run_sizeOf (sizeT inf24), run_sizeOf (sizeT inf41), run_sizeOf (sizeT inf63), Sem.run_pure, Sem.run_map]
  simp [Instr.fill, c0, c2, c3, c4, c5]
theorem Pu_build68 (h0 : opv e x0 = some v0) (h1 : opv e x1 = some v1) (h2 : opv e x2 = some v2) (h6 : opv e x6 = some v6)
    (c0 : v0.cells = #[v0]) (c1 : v1.cells = #[v1]) (c2 : v2.cells = #[v2]) (c6 : v6.cells = #[v6]) :
    Pu Try.prog N (.build 68 #[(0, x0), (1, x1), (2, x2), (6, x6)]) ty e (.agg #[v0, v1, v2, .int .i32 0, .int .i32 0, .bool false, v6, .bool false]) := by
  refine ⟨fun a ha dst pos af g w => ?_⟩
  simp only [execOp, List.map_toArray, List.map_cons, List.map_nil, ha.eval h0, ha.eval h1, ha.eval h2, ha.eval h6, Instr.build, Sem.run_bind, run_zeroValue ze68, Result.andThen_ok, run_underlying Try.underlying68, Value.cells,
    List.mapM_toArray, List.mapM_cons, List.mapM_nil, run_sizeOf (sizeT inf21), run_sizeOf (sizeT inf4), Sem.run_pure, Sem.run_map]
  simp [Instr.fill, c0, c1, c2, c6]
/-- the copy of an Op (three cells) is read -/
theorem Ld57 {S : World → Prop} {x : Operand} {b o : Nat} {u0 u1 u2 : Value} (hx : opv e x = some (.pointer (some ⟨b, o, none⟩))) (h0 : ∀ w, S w → w.cell? ⟨b, o, none⟩ = some u0) (h1 : ∀ w, S w → w.cell? ⟨b, o + 1, none⟩ = some u1) (h2 : ∀ w, S w → w.cell? ⟨b, o + 2, none⟩ = some u2) :
    PuIf Try.prog N S (.load 57 x) ty e (.agg #[u0, u1, u2]) := by
  refine ⟨fun a ha dst pos af g w hS => ?_⟩
  have g0 := h0 w hS
  have g1 := h1 w hS
  have g2 := h2 w hS
  simp [execOp, ha.eval hx, Instr.loadAt, Instr.sureAddr, loadVar, isAgg, run_underlying Try.underlying57, run_sizeOf (sizeT inf57), loadCells, loadCellsFrom, addr_add, g0, g1, g2]
end
end Go.Proofs.Qxb6602549a
