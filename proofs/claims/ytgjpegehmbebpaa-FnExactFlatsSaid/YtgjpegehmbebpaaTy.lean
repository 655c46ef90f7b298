/-
  For each struct type that a literal of this program builds: its fields' places, its zero value. Conditions: none.
-/
import Derived.Test.YtgjpegehmbebpaaFwJ
import Derived.Test.YtgjpegehmbebpaaProg
import Derived.KernelRfl
namespace Go.Proofs.Ytgjpegehmbebpaa
open Go Go.Fw Go.Proofs
theorem bt55 : BldT Try.prog 55 [(0, 1), (1, 1), (2, 1), (3, 1), (4, 1)] [.string ⟨#[]⟩, .int .u64 0, .int .i64 0, .int .i64 0, .int .i64 0] := ⟨_, Try.runUnderlying55, Try.zeroValue55, fun w => by simp [Try.sizeOf2, Try.sizeOf3, Try.sizeOf53, Try.sizeOf9]⟩
theorem bt66 : BldT Try.prog 66 [(0, 1), (1, 1), (2, 1), (3, 1)] [.nilFunc, .nilFunc, .bool false, .map none] := ⟨_, Try.runUnderlying66, Try.zeroValue66, fun w => by simp [Try.sizeOf4, Try.sizeOf62, Try.sizeOf64]⟩
theorem bt70 : BldT Try.prog 70 [(0, 1)] [.slice none 0 0] := ⟨_, Try.runUnderlying70, Try.zeroValue70, fun w => by simp [Try.sizeOf68]⟩
theorem bt73 : BldT Try.prog 73 [(0, 1), (1, 1), (2, 1), (3, 1)] [.string ⟨#[]⟩, .int .u64 0, .int .i64 0, .int .i64 0] := ⟨_, Try.runUnderlying73, Try.zeroValue73, fun w => by simp [Try.sizeOf3, Try.sizeOf53, Try.sizeOf9]⟩
theorem bt77 : BldT Try.prog 77 [(0, 4), (4, 1), (5, 1), (6, 1), (7, 1), (8, 1), (9, 1), (10, 1)] [.string ⟨#[]⟩, .int .u64 0, .int .i64 0, .int .i64 0, .pointer none, .int .i64 0, .int .i64 0, .int .i64 0, .int .i64 0, .slice none 0 0, .slice none 0 0] := ⟨_, Try.runUnderlying77, Try.zeroValue77, fun w => by simp [Try.sizeOf2, Try.sizeOf71, Try.sizeOf73, Try.sizeOf75]⟩
theorem bt100 : BldT Try.prog 100 [(0, 1), (1, 1)] [.slice none 0 0, .map none] := ⟨_, Try.runUnderlying100, Try.zeroValue100, fun w => by simp [Try.sizeOf97, Try.sizeOf98]⟩
theorem bt112 : BldT Try.prog 112 [(0, 1), (1, 1), (2, 1), (3, 1), (4, 1), (5, 1), (6, 1), (7, 1), (8, 1), (9, 1), (10, 1), (11, 1), (12, 1), (13, 1), (14, 1), (15, 1), (16, 1), (17, 1)] [.slice none 0 0, .string ⟨#[]⟩, .slice none 0 0, .slice none 0 0, .slice none 0 0, .slice none 0 0, .slice none 0 0, .string ⟨#[]⟩, .string ⟨#[]⟩, .int .i64 0, .int .i64 0, .pointer none, .int .i64 0, .slice none 0 0, .int .i64 0, .int .i64 0, .slice none 0 0, .int .i64 0] := ⟨_, Try.runUnderlying112, Try.zeroValue112, fun w => by simp [Try.sizeOf105, Try.sizeOf106, Try.sizeOf107, Try.sizeOf108, Try.sizeOf109, Try.sizeOf110, Try.sizeOf2, Try.sizeOf27, Try.sizeOf47, Try.sizeOf9]⟩
theorem bt118 : BldT Try.prog 118 [(0, 1), (1, 1), (2, 1), (3, 1), (4, 1), (5, 1), (6, 1)] [.slice none 0 0, .slice none 0 0, .map none, .map none, .map none, .slice none 0 0, .slice none 0 0] := ⟨_, Try.runUnderlying118, Try.zeroValue118, fun w => by simp [Try.sizeOf108, Try.sizeOf114, Try.sizeOf115, Try.sizeOf116, Try.sizeOf47, Try.sizeOf95]⟩
theorem bt124 : BldT Try.prog 124 [(0, 1), (1, 1), (2, 1), (3, 1), (4, 1), (5, 1)] [.int .u64 0, .pointer none, .int .u64 0, .slice none 0 0, .bool false, .int .u64 0] := ⟨_, Try.runUnderlying124, Try.zeroValue124, fun w => by simp [Try.sizeOf121, Try.sizeOf122, Try.sizeOf4, Try.sizeOf53]⟩
theorem bt128 : BldT Try.prog 128 [(0, 1), (1, 1)] [.pointer none, .pointer none] := ⟨_, Try.runUnderlying128, Try.zeroValue128, fun w => by simp [Try.sizeOf71]⟩
theorem bt133 : BldT Try.prog 133 [(0, 1), (1, 1), (2, 1), (3, 1), (4, 1), (5, 1), (6, 1), (7, 1), (8, 1), (9, 1), (10, 1), (11, 1)] [.int .u64 0, .int .u64 0, .int .u64 0, .int .u64 0, .string ⟨#[]⟩, .string ⟨#[]⟩, .bool false, .bool false, .bool false, .bool false, .int .i64 0, .int .i64 0] := ⟨_, Try.runUnderlying133, Try.zeroValue133, fun w => by simp [Try.sizeOf2, Try.sizeOf4, Try.sizeOf53, Try.sizeOf9]⟩
theorem bt136 : BldT Try.prog 136 [(0, 1), (1, 1), (2, 1), (3, 1), (4, 1), (5, 1), (6, 1), (7, 1)] [.int .u64 0, .string ⟨#[]⟩, .string ⟨#[]⟩, .string ⟨#[]⟩, .int .i64 0, .int .i64 0, .int .i64 0, .int .i64 0] := ⟨_, Try.runUnderlying136, Try.zeroValue136, fun w => by simp [Try.sizeOf2, Try.sizeOf53, Try.sizeOf9]⟩
theorem bt138 : BldT Try.prog 138 [(0, 1), (1, 1), (2, 1)] [.pointer none, .int .i64 0, .int .u64 0] := ⟨_, Try.runUnderlying138, Try.zeroValue138, fun w => by simp [Try.sizeOf134, Try.sizeOf2, Try.sizeOf53]⟩
theorem bt152 : BldT Try.prog 152 [(0, 1), (1, 1), (2, 1), (3, 1), (4, 1), (5, 1)] [.pointer none, .pointer none, .int .i64 0, .int .i64 0, .bool false, .bool false] := ⟨_, Try.runUnderlying152, Try.zeroValue152, fun w => by simp [Try.sizeOf2, Try.sizeOf4, Try.sizeOf71]⟩
theorem bt156 : BldT Try.prog 156 [(0, 1), (1, 1), (2, 1), (3, 1)] [.string ⟨#[]⟩, .string ⟨#[]⟩, .int .i64 0, .int .i64 0] := ⟨_, Try.runUnderlying156, Try.zeroValue156, fun w => by simp [Try.sizeOf2, Try.sizeOf9]⟩
theorem el2 : ElT Try.prog 2 1 8 := ⟨Try.sizeOf2, ⟨_, Try.typeInfo2, rfl⟩, ⟨_, Try.zeroValue2, rfl⟩⟩
theorem el9 : ElT Try.prog 9 1 16 := ⟨Try.sizeOf9, ⟨_, Try.typeInfo9, rfl⟩, ⟨_, Try.zeroValue9, rfl⟩⟩
theorem el53 : ElT Try.prog 53 1 8 := ⟨Try.sizeOf53, ⟨_, Try.typeInfo53, rfl⟩, ⟨_, Try.zeroValue53, rfl⟩⟩
theorem el55 : ElT Try.prog 55 5 48 := ⟨Try.sizeOf55, ⟨_, Try.typeInfo55, rfl⟩, ⟨_, Try.zeroValue55, rfl⟩⟩
theorem el68 : ElT Try.prog 68 1 24 := ⟨Try.sizeOf68, ⟨_, Try.typeInfo68, rfl⟩, ⟨_, Try.zeroValue68, rfl⟩⟩
theorem el71 : ElT Try.prog 71 1 8 := ⟨Try.sizeOf71, ⟨_, Try.typeInfo71, rfl⟩, ⟨_, Try.zeroValue71, rfl⟩⟩
theorem el110 : ElT Try.prog 110 1 8 := ⟨Try.sizeOf110, ⟨_, Try.typeInfo110, rfl⟩, ⟨_, Try.zeroValue110, rfl⟩⟩
theorem el113 : ElT Try.prog 113 1 8 := ⟨Try.sizeOf113, ⟨_, Try.typeInfo113, rfl⟩, ⟨_, Try.zeroValue113, rfl⟩⟩
theorem el119 : ElT Try.prog 119 1 8 := ⟨Try.sizeOf119, ⟨_, Try.typeInfo119, rfl⟩, ⟨_, Try.zeroValue119, rfl⟩⟩
theorem el121 : ElT Try.prog 121 1 8 := ⟨Try.sizeOf121, ⟨_, Try.typeInfo121, rfl⟩, ⟨_, Try.zeroValue121, rfl⟩⟩
theorem el134 : ElT Try.prog 134 1 8 := ⟨Try.sizeOf134, ⟨_, Try.typeInfo134, rfl⟩, ⟨_, Try.zeroValue134, rfl⟩⟩
theorem el138 : ElT Try.prog 138 3 24 := ⟨Try.sizeOf138, ⟨_, Try.typeInfo138, rfl⟩, ⟨_, Try.zeroValue138, rfl⟩⟩
theorem el149 : ElT Try.prog 149 1 8 := ⟨Try.sizeOf149, ⟨_, Try.typeInfo149, rfl⟩, ⟨_, Try.zeroValue149, rfl⟩⟩
theorem nf73 : Try.prog.info? 73 = some Try.t73 := by kernel_rfl
theorem ns73 : Try.t73.size ≠ 0 := Nat.succ_ne_zero 3
theorem nf77 : Try.prog.info? 77 = some Try.t77 := by kernel_rfl
theorem ns77 : Try.t77.size ≠ 0 := Nat.succ_ne_zero 10
theorem nf133 : Try.prog.info? 133 = some Try.t133 := by kernel_rfl
theorem ns133 : Try.t133.size ≠ 0 := Nat.succ_ne_zero 11
theorem nf136 : Try.prog.info? 136 = some Try.t136 := by kernel_rfl
theorem ns136 : Try.t136.size ≠ 0 := Nat.succ_ne_zero 7
theorem nf152 : Try.prog.info? 152 = some Try.t152 := by kernel_rfl
theorem ns152 : Try.t152.size ≠ 0 := Nat.succ_ne_zero 5
end Go.Proofs.Ytgjpegehmbebpaa
