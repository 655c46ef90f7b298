/-
  For each struct type that a literal of this program builds: its fields' places, its zero value. Conditions: none.
-/
import Derived.Test.YtifnhinopjgfaaaGreatFwJ
import Derived.Test.YtifnhinopjgfaaaGreatProg
import Derived.KernelRfl
namespace Go.Proofs.YtifnhinopjgfaaaGreat
open Go Go.Fw Go.Proofs
theorem bt29 : BldT Tryz.prog 29 [(0, 1), (1, 1)] [.string ⟨#[]⟩, .string ⟨#[]⟩] := ⟨_, Tryz.runUnderlying29, Tryz.zeroValue29, fun w => by simp [Tryz.sizeOf9]⟩
theorem bt31 : BldT Tryz.prog 31 [(0, 1), (1, 1), (2, 1), (3, 1), (4, 1), (5, 1), (6, 1), (7, 1), (8, 1), (9, 1), (10, 1), (11, 1), (12, 2)] [.slice none 0 0, .string ⟨#[]⟩, .slice none 0 0, .slice none 0 0, .slice none 0 0, .slice none 0 0, .slice none 0 0, .string ⟨#[]⟩, .string ⟨#[]⟩, .int .i64 0, .int .i64 0, .int .i64 0, .string ⟨#[]⟩, .string ⟨#[]⟩] := ⟨_, Tryz.runUnderlying31, Tryz.zeroValue31, fun w => by simp [Tryz.sizeOf2, Tryz.sizeOf22, Tryz.sizeOf23, Tryz.sizeOf24, Tryz.sizeOf25, Tryz.sizeOf26, Tryz.sizeOf27, Tryz.sizeOf29, Tryz.sizeOf9]⟩
theorem bt50 : BldT Tryz.prog 50 [(0, 1), (1, 1), (2, 1), (3, 1)] [.slice none 0 0, .slice none 0 0, .slice none 0 0, .slice none 0 0] := ⟨_, Tryz.runUnderlying50, Tryz.zeroValue50, fun w => by simp [Tryz.sizeOf45, Tryz.sizeOf46, Tryz.sizeOf47, Tryz.sizeOf48]⟩
theorem bt54 : BldT Tryz.prog 54 [(0, 1), (1, 1)] [.slice none 0 0, .bool false] := ⟨_, Tryz.runUnderlying54, Tryz.zeroValue54, fun w => by simp [Tryz.sizeOf4, Tryz.sizeOf52]⟩
theorem bt58 : BldT Tryz.prog 58 [(0, 1), (1, 1)] [.slice none 0 0, .bool false] := ⟨_, Tryz.runUnderlying58, Tryz.zeroValue58, fun w => by simp [Tryz.sizeOf27, Tryz.sizeOf4]⟩
theorem bt61 : BldT Tryz.prog 61 [(0, 1), (1, 1), (2, 1), (3, 1)] [.int .i64 0, .int .i64 0, .int .u64 0, .slice none 0 0] := ⟨_, Tryz.runUnderlying61, Tryz.zeroValue61, fun w => by simp [Tryz.sizeOf3, Tryz.sizeOf35, Tryz.sizeOf59]⟩
theorem bt70 : BldT Tryz.prog 70 [(0, 1), (1, 1), (2, 1), (3, 1), (4, 1), (5, 1), (6, 1), (7, 1), (8, 1), (9, 1)] [.int .u64 0, .int .u64 0, .int .u64 0, .int .u64 0, .string ⟨#[]⟩, .string ⟨#[]⟩, .bool false, .bool false, .bool false, .bool false] := ⟨_, Tryz.runUnderlying70, Tryz.zeroValue70, fun w => by simp [Tryz.sizeOf4, Tryz.sizeOf59, Tryz.sizeOf9]⟩
theorem bt72 : BldT Tryz.prog 72 [(0, 1), (1, 1), (2, 1), (3, 1), (4, 1)] [.int .u64 0, .string ⟨#[]⟩, .string ⟨#[]⟩, .string ⟨#[]⟩, .int .i64 0] := ⟨_, Tryz.runUnderlying72, Tryz.zeroValue72, fun w => by simp [Tryz.sizeOf2, Tryz.sizeOf59, Tryz.sizeOf9]⟩
theorem bt76 : BldT Tryz.prog 76 [(0, 1), (1, 1), (2, 1), (3, 1)] [.int .u64 0, .int .i64 0, .int .u64 0, .slice none 0 0] := ⟨_, Tryz.runUnderlying76, Tryz.zeroValue76, fun w => by simp [Tryz.sizeOf3, Tryz.sizeOf59, Tryz.sizeOf74]⟩
theorem bt78 : BldT Tryz.prog 78 [(0, 1), (1, 1)] [.int .i64 0, .int .i64 0] := ⟨_, Tryz.runUnderlying78, Tryz.zeroValue78, fun w => by simp [Tryz.sizeOf2, Tryz.sizeOf3]⟩
theorem bt96 : BldT Tryz.prog 96 [(0, 1), (1, 1)] [.string ⟨#[]⟩, .slice none 0 0] := ⟨_, Tryz.runUnderlying96, Tryz.zeroValue96, fun w => by simp [Tryz.sizeOf27, Tryz.sizeOf9]⟩
theorem bt99 : BldT Tryz.prog 99 [(0, 1), (1, 1)] [.string ⟨#[]⟩, .slice none 0 0] := ⟨_, Tryz.runUnderlying99, Tryz.zeroValue99, fun w => by simp [Tryz.sizeOf46, Tryz.sizeOf9]⟩
theorem bt121 : BldT Tryz.prog 121 [(0, 1), (1, 1), (2, 1), (3, 1), (4, 1), (5, 1), (6, 1), (7, 1), (8, 1), (9, 1), (10, 1), (11, 1), (12, 1), (13, 1), (14, 1), (15, 1), (16, 1), (17, 1)] [.slice none 0 0, .string ⟨#[]⟩, .slice none 0 0, .slice none 0 0, .slice none 0 0, .slice none 0 0, .slice none 0 0, .string ⟨#[]⟩, .string ⟨#[]⟩, .int .i64 0, .int .i64 0, .pointer none, .int .i64 0, .slice none 0 0, .int .i64 0, .int .i64 0, .slice none 0 0, .int .i64 0] := ⟨_, Tryz.runUnderlying121, Tryz.zeroValue121, fun w => by simp [Tryz.sizeOf113, Tryz.sizeOf115, Tryz.sizeOf116, Tryz.sizeOf117, Tryz.sizeOf118, Tryz.sizeOf119, Tryz.sizeOf2, Tryz.sizeOf27, Tryz.sizeOf46, Tryz.sizeOf9]⟩
theorem bt124 : BldT Tryz.prog 124 [(0, 1), (1, 1), (2, 1), (3, 1), (4, 1), (5, 1), (6, 1), (7, 1), (8, 1), (9, 1), (10, 1), (11, 1)] [.int .u64 0, .int .u64 0, .int .u64 0, .int .u64 0, .string ⟨#[]⟩, .string ⟨#[]⟩, .bool false, .bool false, .bool false, .bool false, .int .i64 0, .int .i64 0] := ⟨_, Tryz.runUnderlying124, Tryz.zeroValue124, fun w => by simp [Tryz.sizeOf2, Tryz.sizeOf4, Tryz.sizeOf59, Tryz.sizeOf9]⟩
theorem bt127 : BldT Tryz.prog 127 [(0, 1), (1, 1), (2, 1), (3, 1), (4, 1), (5, 1), (6, 1), (7, 1)] [.int .u64 0, .string ⟨#[]⟩, .string ⟨#[]⟩, .string ⟨#[]⟩, .int .i64 0, .int .i64 0, .int .i64 0, .int .i64 0] := ⟨_, Tryz.runUnderlying127, Tryz.zeroValue127, fun w => by simp [Tryz.sizeOf2, Tryz.sizeOf59, Tryz.sizeOf9]⟩
theorem bt131 : BldT Tryz.prog 131 [(0, 1), (1, 1), (2, 1), (3, 1), (4, 1), (5, 1)] [.int .u64 0, .pointer none, .int .u64 0, .slice none 0 0, .bool false, .int .u64 0] := ⟨_, Tryz.runUnderlying131, Tryz.zeroValue131, fun w => by simp [Tryz.sizeOf122, Tryz.sizeOf129, Tryz.sizeOf4, Tryz.sizeOf59]⟩
theorem bt133 : BldT Tryz.prog 133 [(0, 1), (1, 1), (2, 1)] [.pointer none, .int .i64 0, .int .u64 0] := ⟨_, Tryz.runUnderlying133, Tryz.zeroValue133, fun w => by simp [Tryz.sizeOf125, Tryz.sizeOf2, Tryz.sizeOf59]⟩
theorem bt139 : BldT Tryz.prog 139 [(0, 1), (1, 1), (2, 1), (3, 1), (4, 1), (5, 1), (6, 1)] [.slice none 0 0, .slice none 0 0, .map none, .map none, .map none, .slice none 0 0, .slice none 0 0] := ⟨_, Tryz.runUnderlying139, Tryz.zeroValue139, fun w => by simp [Tryz.sizeOf118, Tryz.sizeOf135, Tryz.sizeOf136, Tryz.sizeOf137, Tryz.sizeOf46, Tryz.sizeOf67]⟩
theorem bt159 : BldT Tryz.prog 159 [(0, 1), (1, 1), (2, 1), (3, 1)] [.string ⟨#[]⟩, .string ⟨#[]⟩, .int .i64 0, .int .i64 0] := ⟨_, Tryz.runUnderlying159, Tryz.zeroValue159, fun w => by simp [Tryz.sizeOf2, Tryz.sizeOf9]⟩
theorem bt164 : BldT Tryz.prog 164 [(0, 1), (1, 1), (2, 1)] [.int .i64 0, .int .i64 0, .int .i64 0] := ⟨_, Tryz.runUnderlying164, Tryz.zeroValue164, fun w => by simp [Tryz.sizeOf2]⟩
theorem el2 : ElT Tryz.prog 2 1 8 := ⟨Tryz.sizeOf2, ⟨_, Tryz.typeInfo2, rfl⟩, ⟨_, Tryz.zeroValue2, rfl⟩⟩
theorem el3 : ElT Tryz.prog 3 1 8 := ⟨Tryz.sizeOf3, ⟨_, Tryz.typeInfo3, rfl⟩, ⟨_, Tryz.zeroValue3, rfl⟩⟩
theorem el5 : ElT Tryz.prog 5 1 1 := ⟨Tryz.sizeOf5, ⟨_, Tryz.typeInfo5, rfl⟩, ⟨_, Tryz.zeroValue5, rfl⟩⟩
theorem el9 : ElT Tryz.prog 9 1 16 := ⟨Tryz.sizeOf9, ⟨_, Tryz.typeInfo9, rfl⟩, ⟨_, Tryz.zeroValue9, rfl⟩⟩
theorem el29 : ElT Tryz.prog 29 2 32 := ⟨Tryz.sizeOf29, ⟨_, Tryz.typeInfo29, rfl⟩, ⟨_, Tryz.zeroValue29, rfl⟩⟩
theorem el50 : ElT Tryz.prog 50 4 96 := ⟨Tryz.sizeOf50, ⟨_, Tryz.typeInfo50, rfl⟩, ⟨_, Tryz.zeroValue50, rfl⟩⟩
theorem el54 : ElT Tryz.prog 54 2 32 := ⟨Tryz.sizeOf54, ⟨_, Tryz.typeInfo54, rfl⟩, ⟨_, Tryz.zeroValue54, rfl⟩⟩
theorem el59 : ElT Tryz.prog 59 1 8 := ⟨Tryz.sizeOf59, ⟨_, Tryz.typeInfo59, rfl⟩, ⟨_, Tryz.zeroValue59, rfl⟩⟩
theorem el61 : ElT Tryz.prog 61 4 48 := ⟨Tryz.sizeOf61, ⟨_, Tryz.typeInfo61, rfl⟩, ⟨_, Tryz.zeroValue61, rfl⟩⟩
theorem el70 : ElT Tryz.prog 70 10 72 := ⟨Tryz.sizeOf70, ⟨_, Tryz.typeInfo70, rfl⟩, ⟨_, Tryz.zeroValue70, rfl⟩⟩
theorem el72 : ElT Tryz.prog 72 5 64 := ⟨Tryz.sizeOf72, ⟨_, Tryz.typeInfo72, rfl⟩, ⟨_, Tryz.zeroValue72, rfl⟩⟩
theorem el76 : ElT Tryz.prog 76 4 48 := ⟨Tryz.sizeOf76, ⟨_, Tryz.typeInfo76, rfl⟩, ⟨_, Tryz.zeroValue76, rfl⟩⟩
theorem el78 : ElT Tryz.prog 78 2 16 := ⟨Tryz.sizeOf78, ⟨_, Tryz.typeInfo78, rfl⟩, ⟨_, Tryz.zeroValue78, rfl⟩⟩
theorem el96 : ElT Tryz.prog 96 2 40 := ⟨Tryz.sizeOf96, ⟨_, Tryz.typeInfo96, rfl⟩, ⟨_, Tryz.zeroValue96, rfl⟩⟩
theorem el99 : ElT Tryz.prog 99 2 40 := ⟨Tryz.sizeOf99, ⟨_, Tryz.typeInfo99, rfl⟩, ⟨_, Tryz.zeroValue99, rfl⟩⟩
theorem el113 : ElT Tryz.prog 113 1 8 := ⟨Tryz.sizeOf113, ⟨_, Tryz.typeInfo113, rfl⟩, ⟨_, Tryz.zeroValue113, rfl⟩⟩
theorem el122 : ElT Tryz.prog 122 1 8 := ⟨Tryz.sizeOf122, ⟨_, Tryz.typeInfo122, rfl⟩, ⟨_, Tryz.zeroValue122, rfl⟩⟩
theorem el125 : ElT Tryz.prog 125 1 8 := ⟨Tryz.sizeOf125, ⟨_, Tryz.typeInfo125, rfl⟩, ⟨_, Tryz.zeroValue125, rfl⟩⟩
theorem el128 : ElT Tryz.prog 128 1 8 := ⟨Tryz.sizeOf128, ⟨_, Tryz.typeInfo128, rfl⟩, ⟨_, Tryz.zeroValue128, rfl⟩⟩
theorem el133 : ElT Tryz.prog 133 3 24 := ⟨Tryz.sizeOf133, ⟨_, Tryz.typeInfo133, rfl⟩, ⟨_, Tryz.zeroValue133, rfl⟩⟩
theorem el134 : ElT Tryz.prog 134 1 8 := ⟨Tryz.sizeOf134, ⟨_, Tryz.typeInfo134, rfl⟩, ⟨_, Tryz.zeroValue134, rfl⟩⟩
theorem el164 : ElT Tryz.prog 164 3 24 := ⟨Tryz.sizeOf164, ⟨_, Tryz.typeInfo164, rfl⟩, ⟨_, Tryz.zeroValue164, rfl⟩⟩
end Go.Proofs.YtifnhinopjgfaaaGreat
