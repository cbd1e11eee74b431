/- The tables that the walks look things up in: of each type its form, size and zero; of each function that it is entered. Printed by a program (wip/tools/gentab.py). -/
import Derived.Test.YtfebpbflpdppiaaDoorSl
import Derived.Test.YtfebpbflpdppiaaDoorProg
namespace Go.Proofs.YtfebpbflpdppiaaDoor
open Go Go.Sl
set_option maxRecDepth 100000
instance : TyU Tryd.prog 0 (Go.TypeDesc.tuple #[]) := ⟨Tryd.underlying0⟩
instance : TyI Tryd.prog 0 1 0 (.tuple #[]) := TyI.of (by kernel_rfl)
instance : TyU Tryd.prog 1 (Go.TypeDesc.func #[] #[] Bool.false) := ⟨Tryd.underlying1⟩
instance : TyI Tryd.prog 1 1 8 (.nilFunc) := TyI.of (by kernel_rfl)
instance : TyU Tryd.prog 2 (Go.TypeDesc.int Go.IntKind.i64) := ⟨Tryd.underlying2⟩
instance : TyI Tryd.prog 2 1 8 (.int .i64 0) := TyI.of (by kernel_rfl)
instance : TyU Tryd.prog 3 (Go.TypeDesc.int Go.IntKind.i64) := ⟨Tryd.underlying3⟩
instance : TyI Tryd.prog 3 1 8 (.int .i64 0) := TyI.of (by kernel_rfl)
instance : TyU Tryd.prog 4 (Go.TypeDesc.bool) := ⟨Tryd.underlying4⟩
instance : TyI Tryd.prog 4 1 1 (.bool false) := TyI.of (by kernel_rfl)
instance : TyU Tryd.prog 5 (Go.TypeDesc.int Go.IntKind.u8) := ⟨Tryd.underlying5⟩
instance : TyI Tryd.prog 5 1 1 (.int .u8 0) := TyI.of (by kernel_rfl)
instance : TyU Tryd.prog 6 (Go.TypeDesc.int Go.IntKind.u8) := ⟨Tryd.underlying6⟩
instance : TyI Tryd.prog 6 1 1 (.int .u8 0) := TyI.of (by kernel_rfl)
instance : TyU Tryd.prog 7 (Go.TypeDesc.struct #[{ name := "x", type := 2, offset := 0, embedded := Bool.false, tag := "", pkgPath := "runtime", byteOffset := 0 }, { name := "y", type := 3, offset := 1, embedded := Bool.false, tag := "", pkgPath := "runtime", byteOffset := 8 }, { name := "signed", type := 4, offset := 2, embedded := Bool.false, tag := "", pkgPath := "runtime", byteOffset := 16 }, { name := "code", type := 6, offset := 3, embedded := Bool.false, tag := "", pkgPath := "runtime", byteOffset := 17 }]) := ⟨Tryd.underlying7⟩
instance : TyI Tryd.prog 7 4 24 (.agg #[.int .i64 0, .int .i64 0, .bool false, .int .u8 0]) := TyI.of (by kernel_rfl)
instance : TyU Tryd.prog 8 (Go.TypeDesc.struct #[{ name := "x", type := 2, offset := 0, embedded := Bool.false, tag := "", pkgPath := "runtime", byteOffset := 0 }, { name := "y", type := 3, offset := 1, embedded := Bool.false, tag := "", pkgPath := "runtime", byteOffset := 8 }, { name := "signed", type := 4, offset := 2, embedded := Bool.false, tag := "", pkgPath := "runtime", byteOffset := 16 }, { name := "code", type := 6, offset := 3, embedded := Bool.false, tag := "", pkgPath := "runtime", byteOffset := 17 }]) := ⟨Tryd.underlying8⟩
instance : TyI Tryd.prog 8 4 24 (.agg #[.int .i64 0, .int .i64 0, .bool false, .int .u8 0]) := TyI.of (by kernel_rfl)
instance : TyU Tryd.prog 9 (Go.TypeDesc.string) := ⟨Tryd.underlying9⟩
instance : TyI Tryd.prog 9 1 16 (.string ByteArray.empty) := TyI.of (by kernel_rfl)
instance : TyU Tryd.prog 10 (Go.TypeDesc.string) := ⟨Tryd.underlying10⟩
instance : TyI Tryd.prog 10 1 16 (.string ByteArray.empty) := TyI.of (by kernel_rfl)
instance : TyU Tryd.prog 11 (Go.TypeDesc.string) := ⟨Tryd.underlying11⟩
instance : TyI Tryd.prog 11 1 16 (.string ByteArray.empty) := TyI.of (by kernel_rfl)
instance : TyU Tryd.prog 12 (Go.TypeDesc.int Go.IntKind.u64) := ⟨Tryd.underlying12⟩
instance : TyI Tryd.prog 12 1 8 (.int .u64 0) := TyI.of (by kernel_rfl)
instance : TyU Tryd.prog 13 (Go.TypeDesc.struct #[{ name := "msg", type := 9, offset := 0, embedded := Bool.false, tag := "", pkgPath := "runtime", byteOffset := 0 }, { name := "addr", type := 12, offset := 1, embedded := Bool.false, tag := "", pkgPath := "runtime", byteOffset := 16 }]) := ⟨Tryd.underlying13⟩
instance : TyI Tryd.prog 13 2 24 (.agg #[.string ByteArray.empty, .int .u64 0]) := TyI.of (by kernel_rfl)
instance : TyU Tryd.prog 14 (Go.TypeDesc.struct #[{ name := "msg", type := 9, offset := 0, embedded := Bool.false, tag := "", pkgPath := "runtime", byteOffset := 0 }, { name := "addr", type := 12, offset := 1, embedded := Bool.false, tag := "", pkgPath := "runtime", byteOffset := 16 }]) := ⟨Tryd.underlying14⟩
instance : TyI Tryd.prog 14 2 24 (.agg #[.string ByteArray.empty, .int .u64 0]) := TyI.of (by kernel_rfl)
instance : TyU Tryd.prog 15 (Go.TypeDesc.pointer 134) := ⟨Tryd.underlying15⟩
instance : TyI Tryd.prog 15 1 8 (.pointer none) := TyI.of (by kernel_rfl)
instance : TyU Tryd.prog 16 (Go.TypeDesc.pointer 137) := ⟨Tryd.underlying16⟩
instance : TyI Tryd.prog 16 1 8 (.pointer none) := TyI.of (by kernel_rfl)
instance : TyU Tryd.prog 17 (Go.TypeDesc.pointer 146) := ⟨Tryd.underlying17⟩
instance : TyI Tryd.prog 17 1 8 (.pointer none) := TyI.of (by kernel_rfl)
instance : TyU Tryd.prog 18 (Go.TypeDesc.struct #[{ name := "typ", type := 17, offset := 0, embedded := Bool.false, tag := "", pkgPath := "internal/runtime/maps", byteOffset := 0 }]) := ⟨Tryd.underlying18⟩
instance : TyI Tryd.prog 18 1 8 (.agg #[.pointer none]) := TyI.of (by kernel_rfl)
instance : TyU Tryd.prog 19 (Go.TypeDesc.struct #[{ name := "typ", type := 17, offset := 0, embedded := Bool.false, tag := "", pkgPath := "internal/runtime/maps", byteOffset := 0 }]) := ⟨Tryd.underlying19⟩
instance : TyI Tryd.prog 19 1 8 (.agg #[.pointer none]) := TyI.of (by kernel_rfl)
instance : TyU Tryd.prog 20 (Go.TypeDesc.interface #[]) := ⟨Tryd.underlying20⟩
instance : TyI Tryd.prog 20 1 16 (.nilIface) := TyI.of (by kernel_rfl)
instance : TyU Tryd.prog 21 (Go.TypeDesc.int Go.IntKind.i32) := ⟨Tryd.underlying21⟩
instance : TyI Tryd.prog 21 1 4 (.int .i32 0) := TyI.of (by kernel_rfl)
instance : TyU Tryd.prog 22 (Go.TypeDesc.slice 5) := ⟨Tryd.underlying22⟩
instance : TyI Tryd.prog 22 1 24 (.slice none 0 0) := TyI.of (by kernel_rfl)
instance : TyU Tryd.prog 23 (Go.TypeDesc.func #[] #[4] Bool.false) := ⟨Tryd.underlying23⟩
instance : TyI Tryd.prog 23 1 8 (.nilFunc) := TyI.of (by kernel_rfl)
instance : TyU Tryd.prog 24 (Go.TypeDesc.slice 36) := ⟨Tryd.underlying24⟩
instance : TyI Tryd.prog 24 1 24 (.slice none 0 0) := TyI.of (by kernel_rfl)
instance : TyU Tryd.prog 25 (Go.TypeDesc.tuple #[24, 3]) := ⟨Tryd.underlying25⟩
instance : TyI Tryd.prog 25 1 0 (.tuple #[.slice none 0 0, .int .i64 0]) := TyI.of (by kernel_rfl)
instance : TyU Tryd.prog 26 (Go.TypeDesc.func #[22] #[24, 3] Bool.false) := ⟨Tryd.underlying26⟩
instance : TyI Tryd.prog 26 1 8 (.nilFunc) := TyI.of (by kernel_rfl)
instance : TyU Tryd.prog 27 (Go.TypeDesc.func #[22] #[22] Bool.false) := ⟨Tryd.underlying27⟩
instance : TyI Tryd.prog 27 1 8 (.nilFunc) := TyI.of (by kernel_rfl)
instance : TyU Tryd.prog 28 (Go.TypeDesc.func #[24] #[3] Bool.false) := ⟨Tryd.underlying28⟩
instance : TyI Tryd.prog 28 1 8 (.nilFunc) := TyI.of (by kernel_rfl)
instance : TyU Tryd.prog 29 (Go.TypeDesc.func #[24] #[24] Bool.false) := ⟨Tryd.underlying29⟩
instance : TyI Tryd.prog 29 1 8 (.nilFunc) := TyI.of (by kernel_rfl)
instance : TyU Tryd.prog 30 (Go.TypeDesc.tuple #[22, 3]) := ⟨Tryd.underlying30⟩
instance : TyI Tryd.prog 30 1 0 (.tuple #[.slice none 0 0, .int .i64 0]) := TyI.of (by kernel_rfl)
instance : TyU Tryd.prog 31 (Go.TypeDesc.func #[24] #[22, 3] Bool.false) := ⟨Tryd.underlying31⟩
instance : TyI Tryd.prog 31 1 8 (.nilFunc) := TyI.of (by kernel_rfl)
instance : TyU Tryd.prog 32 (Go.TypeDesc.func #[24, 24] #[4] Bool.false) := ⟨Tryd.underlying32⟩
instance : TyI Tryd.prog 32 1 8 (.nilFunc) := TyI.of (by kernel_rfl)
instance : TyU Tryd.prog 33 (Go.TypeDesc.func #[22] #[4] Bool.false) := ⟨Tryd.underlying33⟩
instance : TyI Tryd.prog 33 1 8 (.nilFunc) := TyI.of (by kernel_rfl)
instance : TyU Tryd.prog 34 (Go.TypeDesc.int Go.IntKind.u64) := ⟨Tryd.underlying34⟩
instance : TyI Tryd.prog 34 1 8 (.int .u64 0) := TyI.of (by kernel_rfl)
instance : TyU Tryd.prog 35 (Go.TypeDesc.struct #[{ name := "Kind", type := 9, offset := 0, embedded := Bool.false, tag := "", pkgPath := "", byteOffset := 0 }, { name := "I", type := 2, offset := 1, embedded := Bool.false, tag := "", pkgPath := "", byteOffset := 16 }, { name := "U", type := 34, offset := 2, embedded := Bool.false, tag := "", pkgPath := "", byteOffset := 24 }, { name := "F", type := 34, offset := 3, embedded := Bool.false, tag := "", pkgPath := "", byteOffset := 32 }, { name := "G", type := 34, offset := 4, embedded := Bool.false, tag := "", pkgPath := "", byteOffset := 40 }, { name := "S", type := 9, offset := 5, embedded := Bool.false, tag := "", pkgPath := "", byteOffset := 48 }]) := ⟨Tryd.underlying35⟩
instance : TyI Tryd.prog 35 6 64 (.agg #[.string ByteArray.empty, .int .i64 0, .int .u64 0, .int .u64 0, .int .u64 0, .string ByteArray.empty]) := TyI.of (by kernel_rfl)
instance : TyU Tryd.prog 36 (Go.TypeDesc.struct #[{ name := "Kind", type := 9, offset := 0, embedded := Bool.false, tag := "", pkgPath := "", byteOffset := 0 }, { name := "I", type := 2, offset := 1, embedded := Bool.false, tag := "", pkgPath := "", byteOffset := 16 }, { name := "U", type := 34, offset := 2, embedded := Bool.false, tag := "", pkgPath := "", byteOffset := 24 }, { name := "F", type := 34, offset := 3, embedded := Bool.false, tag := "", pkgPath := "", byteOffset := 32 }, { name := "G", type := 34, offset := 4, embedded := Bool.false, tag := "", pkgPath := "", byteOffset := 40 }, { name := "S", type := 9, offset := 5, embedded := Bool.false, tag := "", pkgPath := "", byteOffset := 48 }]) := ⟨Tryd.underlying36⟩
instance : TyI Tryd.prog 36 6 64 (.agg #[.string ByteArray.empty, .int .i64 0, .int .u64 0, .int .u64 0, .int .u64 0, .string ByteArray.empty]) := TyI.of (by kernel_rfl)
instance : TyU Tryd.prog 37 (Go.TypeDesc.tuple #[3, 3]) := ⟨Tryd.underlying37⟩
instance : TyI Tryd.prog 37 1 0 (.tuple #[.int .i64 0, .int .i64 0]) := TyI.of (by kernel_rfl)
instance : TyU Tryd.prog 38 (Go.TypeDesc.func #[24, 24, 4] #[3, 3] Bool.false) := ⟨Tryd.underlying38⟩
instance : TyI Tryd.prog 38 1 8 (.nilFunc) := TyI.of (by kernel_rfl)
instance : TyU Tryd.prog 39 (Go.TypeDesc.slice 20) := ⟨Tryd.underlying39⟩
instance : TyI Tryd.prog 39 1 24 (.slice none 0 0) := TyI.of (by kernel_rfl)
instance : TyU Tryd.prog 40 (Go.TypeDesc.interface #[("Error", 132)]) := ⟨Tryd.underlying40⟩
instance : TyI Tryd.prog 40 1 16 (.nilIface) := TyI.of (by kernel_rfl)
instance : TyU Tryd.prog 41 (Go.TypeDesc.interface #[("Error", 132)]) := ⟨Tryd.underlying41⟩
instance : TyI Tryd.prog 41 1 16 (.nilIface) := TyI.of (by kernel_rfl)
instance : TyU Tryd.prog 42 (Go.TypeDesc.tuple #[39, 41]) := ⟨Tryd.underlying42⟩
instance : TyI Tryd.prog 42 1 0 (.tuple #[.slice none 0 0, .nilIface]) := TyI.of (by kernel_rfl)
instance : TyU Tryd.prog 43 (Go.TypeDesc.func #[22] #[39, 41] Bool.false) := ⟨Tryd.underlying43⟩
instance : TyI Tryd.prog 43 1 8 (.nilFunc) := TyI.of (by kernel_rfl)
instance : TyU Tryd.prog 44 (Go.TypeDesc.func #[41] #[3] Bool.false) := ⟨Tryd.underlying44⟩
instance : TyI Tryd.prog 44 1 8 (.nilFunc) := TyI.of (by kernel_rfl)
instance : TyU Tryd.prog 45 (Go.TypeDesc.func #[20] #[36] Bool.false) := ⟨Tryd.underlying45⟩
instance : TyI Tryd.prog 45 1 8 (.nilFunc) := TyI.of (by kernel_rfl)
instance : TyU Tryd.prog 46 (Go.TypeDesc.func #[24] #[4] Bool.false) := ⟨Tryd.underlying46⟩
instance : TyI Tryd.prog 46 1 8 (.nilFunc) := TyI.of (by kernel_rfl)
instance : TyU Tryd.prog 47 (Go.TypeDesc.tuple #[22, 41]) := ⟨Tryd.underlying47⟩
instance : TyI Tryd.prog 47 1 0 (.tuple #[.slice none 0 0, .nilIface]) := TyI.of (by kernel_rfl)
instance : TyU Tryd.prog 48 (Go.TypeDesc.func #[39] #[22, 41] Bool.true) := ⟨Tryd.underlying48⟩
instance : TyI Tryd.prog 48 1 8 (.nilFunc) := TyI.of (by kernel_rfl)
instance : TyU Tryd.prog 49 (Go.TypeDesc.func #[24] #[39] Bool.false) := ⟨Tryd.underlying49⟩
instance : TyI Tryd.prog 49 1 8 (.nilFunc) := TyI.of (by kernel_rfl)
instance : TyU Tryd.prog 50 (Go.TypeDesc.func #[36] #[3] Bool.false) := ⟨Tryd.underlying50⟩
instance : TyI Tryd.prog 50 1 8 (.nilFunc) := TyI.of (by kernel_rfl)
instance : TyU Tryd.prog 51 (Go.TypeDesc.func #[36, 36, 4] #[3, 3] Bool.false) := ⟨Tryd.underlying51⟩
instance : TyI Tryd.prog 51 1 8 (.nilFunc) := TyI.of (by kernel_rfl)
instance : TyU Tryd.prog 52 (Go.TypeDesc.func #[36, 36] #[4] Bool.false) := ⟨Tryd.underlying52⟩
instance : TyI Tryd.prog 52 1 8 (.nilFunc) := TyI.of (by kernel_rfl)
instance : TyU Tryd.prog 53 (Go.TypeDesc.tuple #[3, 41]) := ⟨Tryd.underlying53⟩
instance : TyI Tryd.prog 53 1 0 (.tuple #[.int .i64 0, .nilIface]) := TyI.of (by kernel_rfl)
instance : TyU Tryd.prog 54 (Go.TypeDesc.func #[39, 39, 55] #[3, 41] Bool.false) := ⟨Tryd.underlying54⟩
instance : TyI Tryd.prog 54 1 8 (.nilFunc) := TyI.of (by kernel_rfl)
instance : TyU Tryd.prog 55 (Go.TypeDesc.func #[9, 9] #[3] Bool.false) := ⟨Tryd.underlying55⟩
instance : TyI Tryd.prog 55 1 8 (.nilFunc) := TyI.of (by kernel_rfl)
instance : TyU Tryd.prog 56 (Go.TypeDesc.func #[4] #[55] Bool.false) := ⟨Tryd.underlying56⟩
instance : TyI Tryd.prog 56 1 8 (.nilFunc) := TyI.of (by kernel_rfl)
instance : TyU Tryd.prog 57 (Go.TypeDesc.float Go.FloatKind.f64) := ⟨Tryd.underlying57⟩
instance : TyI Tryd.prog 57 1 8 (.float .f64 0) := TyI.of (by kernel_rfl)
instance : TyU Tryd.prog 58 (Go.TypeDesc.func #[22] #[57] Bool.false) := ⟨Tryd.underlying58⟩
instance : TyI Tryd.prog 58 1 8 (.nilFunc) := TyI.of (by kernel_rfl)
instance : TyU Tryd.prog 59 (Go.TypeDesc.complex Go.FloatKind.f64) := ⟨Tryd.underlying59⟩
instance : TyI Tryd.prog 59 1 16 (.complex .f64 0 0) := TyI.of (by kernel_rfl)
instance : TyU Tryd.prog 60 (Go.TypeDesc.int Go.IntKind.u64) := ⟨Tryd.underlying60⟩
instance : TyI Tryd.prog 60 1 8 (.int .u64 0) := TyI.of (by kernel_rfl)
instance : TyU Tryd.prog 61 (Go.TypeDesc.pointer 63) := ⟨Tryd.underlying61⟩
instance : TyI Tryd.prog 61 1 8 (.pointer none) := TyI.of (by kernel_rfl)
instance : TyU Tryd.prog 62 (Go.TypeDesc.struct #[{ name := "B", type := 22, offset := 0, embedded := Bool.false, tag := "", pkgPath := "", byteOffset := 0 }, { name := "I", type := 3, offset := 1, embedded := Bool.false, tag := "", pkgPath := "", byteOffset := 24 }]) := ⟨Tryd.underlying62⟩
instance : TyI Tryd.prog 62 2 32 (.agg #[.slice none 0 0, .int .i64 0]) := TyI.of (by kernel_rfl)
instance : TyU Tryd.prog 63 (Go.TypeDesc.struct #[{ name := "B", type := 22, offset := 0, embedded := Bool.false, tag := "", pkgPath := "", byteOffset := 0 }, { name := "I", type := 3, offset := 1, embedded := Bool.false, tag := "", pkgPath := "", byteOffset := 24 }]) := ⟨Tryd.underlying63⟩
instance : TyI Tryd.prog 63 2 32 (.agg #[.slice none 0 0, .int .i64 0]) := TyI.of (by kernel_rfl)
instance : TyU Tryd.prog 64 (Go.TypeDesc.pointer 72) := ⟨Tryd.underlying64⟩
instance : TyI Tryd.prog 64 1 8 (.pointer none) := TyI.of (by kernel_rfl)
instance : TyU Tryd.prog 65 (Go.TypeDesc.pointer 148) := ⟨Tryd.underlying65⟩
instance : TyI Tryd.prog 65 1 8 (.pointer none) := TyI.of (by kernel_rfl)
instance : TyU Tryd.prog 66 (Go.TypeDesc.pointer 151) := ⟨Tryd.underlying66⟩
instance : TyI Tryd.prog 66 1 8 (.pointer none) := TyI.of (by kernel_rfl)
instance : TyU Tryd.prog 67 (Go.TypeDesc.func #[41] #[4] Bool.false) := ⟨Tryd.underlying67⟩
instance : TyI Tryd.prog 67 1 8 (.nilFunc) := TyI.of (by kernel_rfl)
instance : TyU Tryd.prog 68 (Go.TypeDesc.func #[41, 41] #[4] Bool.false) := ⟨Tryd.underlying68⟩
instance : TyI Tryd.prog 68 1 8 (.nilFunc) := TyI.of (by kernel_rfl)
instance : TyU Tryd.prog 69 (Go.TypeDesc.func #[57] #[34] Bool.false) := ⟨Tryd.underlying69⟩
instance : TyI Tryd.prog 69 1 8 (.nilFunc) := TyI.of (by kernel_rfl)
instance : TyU Tryd.prog 70 (Go.TypeDesc.func #[9, 39] #[9] Bool.true) := ⟨Tryd.underlying70⟩
instance : TyI Tryd.prog 70 1 8 (.nilFunc) := TyI.of (by kernel_rfl)
instance : TyU Tryd.prog 71 (Go.TypeDesc.struct #[{ name := "Src", type := 9, offset := 0, embedded := Bool.false, tag := "", pkgPath := "", byteOffset := 0 }, { name := "Val", type := 20, offset := 1, embedded := Bool.false, tag := "", pkgPath := "", byteOffset := 16 }]) := ⟨Tryd.underlying71⟩
instance : TyI Tryd.prog 71 2 32 (.agg #[.string ByteArray.empty, .nilIface]) := TyI.of (by kernel_rfl)
instance : TyU Tryd.prog 72 (Go.TypeDesc.struct #[{ name := "Src", type := 9, offset := 0, embedded := Bool.false, tag := "", pkgPath := "", byteOffset := 0 }, { name := "Val", type := 20, offset := 1, embedded := Bool.false, tag := "", pkgPath := "", byteOffset := 16 }]) := ⟨Tryd.underlying72⟩
instance : TyI Tryd.prog 72 2 32 (.agg #[.string ByteArray.empty, .nilIface]) := TyI.of (by kernel_rfl)
instance : TyU Tryd.prog 73 (Go.TypeDesc.float Go.FloatKind.f32) := ⟨Tryd.underlying73⟩
instance : TyI Tryd.prog 73 1 4 (.float .f32 0) := TyI.of (by kernel_rfl)
instance : TyU Tryd.prog 74 (Go.TypeDesc.func #[57, 75] #[] Bool.false) := ⟨Tryd.underlying74⟩
instance : TyI Tryd.prog 74 1 8 (.nilFunc) := TyI.of (by kernel_rfl)
instance : TyU Tryd.prog 75 (Go.TypeDesc.pointer 22) := ⟨Tryd.underlying75⟩
instance : TyI Tryd.prog 75 1 8 (.pointer none) := TyI.of (by kernel_rfl)
instance : TyU Tryd.prog 76 (Go.TypeDesc.complex Go.FloatKind.f32) := ⟨Tryd.underlying76⟩
instance : TyI Tryd.prog 76 1 8 (.complex .f32 0 0) := TyI.of (by kernel_rfl)
instance : TyU Tryd.prog 77 (Go.TypeDesc.func #[59, 75] #[] Bool.false) := ⟨Tryd.underlying77⟩
instance : TyI Tryd.prog 77 1 8 (.nilFunc) := TyI.of (by kernel_rfl)
instance : TyU Tryd.prog 78 (Go.TypeDesc.func #[9, 39] #[41] Bool.true) := ⟨Tryd.underlying78⟩
instance : TyI Tryd.prog 78 1 8 (.nilFunc) := TyI.of (by kernel_rfl)
instance : TyU Tryd.prog 79 (Go.TypeDesc.func #[34, 75] #[] Bool.false) := ⟨Tryd.underlying79⟩
instance : TyI Tryd.prog 79 1 8 (.nilFunc) := TyI.of (by kernel_rfl)
instance : TyU Tryd.prog 80 (Go.TypeDesc.int Go.IntKind.i8) := ⟨Tryd.underlying80⟩
instance : TyI Tryd.prog 80 1 1 (.int .i8 0) := TyI.of (by kernel_rfl)
instance : TyU Tryd.prog 81 (Go.TypeDesc.func #[2, 75] #[] Bool.false) := ⟨Tryd.underlying81⟩
instance : TyI Tryd.prog 81 1 8 (.nilFunc) := TyI.of (by kernel_rfl)
instance : TyU Tryd.prog 82 (Go.TypeDesc.int Go.IntKind.i16) := ⟨Tryd.underlying82⟩
instance : TyI Tryd.prog 82 1 2 (.int .i16 0) := TyI.of (by kernel_rfl)
instance : TyU Tryd.prog 83 (Go.TypeDesc.int Go.IntKind.u16) := ⟨Tryd.underlying83⟩
instance : TyI Tryd.prog 83 1 2 (.int .u16 0) := TyI.of (by kernel_rfl)
instance : TyU Tryd.prog 84 (Go.TypeDesc.int Go.IntKind.u32) := ⟨Tryd.underlying84⟩
instance : TyI Tryd.prog 84 1 4 (.int .u32 0) := TyI.of (by kernel_rfl)
instance : TyU Tryd.prog 85 (Go.TypeDesc.func #[36] #[20] Bool.false) := ⟨Tryd.underlying85⟩
instance : TyI Tryd.prog 85 1 8 (.nilFunc) := TyI.of (by kernel_rfl)
instance : TyU Tryd.prog 86 (Go.TypeDesc.func #[4, 4] #[3] Bool.false) := ⟨Tryd.underlying86⟩
instance : TyI Tryd.prog 86 1 8 (.nilFunc) := TyI.of (by kernel_rfl)
instance : TyU Tryd.prog 87 (Go.TypeDesc.struct #[{ name := "sign", type := 3, offset := 0, embedded := Bool.false, tag := "", pkgPath := "pub-stonevault/spec", byteOffset := 0 }, { name := "m", type := 34, offset := 1, embedded := Bool.false, tag := "", pkgPath := "pub-stonevault/spec", byteOffset := 8 }, { name := "e", type := 3, offset := 2, embedded := Bool.false, tag := "", pkgPath := "pub-stonevault/spec", byteOffset := 16 }, { name := "inf", type := 4, offset := 3, embedded := Bool.false, tag := "", pkgPath := "pub-stonevault/spec", byteOffset := 24 }]) := ⟨Tryd.underlying87⟩
instance : TyI Tryd.prog 87 4 32 (.agg #[.int .i64 0, .int .u64 0, .int .i64 0, .bool false]) := TyI.of (by kernel_rfl)
instance : TyU Tryd.prog 88 (Go.TypeDesc.struct #[{ name := "sign", type := 3, offset := 0, embedded := Bool.false, tag := "", pkgPath := "pub-stonevault/spec", byteOffset := 0 }, { name := "m", type := 34, offset := 1, embedded := Bool.false, tag := "", pkgPath := "pub-stonevault/spec", byteOffset := 8 }, { name := "e", type := 3, offset := 2, embedded := Bool.false, tag := "", pkgPath := "pub-stonevault/spec", byteOffset := 16 }, { name := "inf", type := 4, offset := 3, embedded := Bool.false, tag := "", pkgPath := "pub-stonevault/spec", byteOffset := 24 }]) := ⟨Tryd.underlying88⟩
instance : TyI Tryd.prog 88 4 32 (.agg #[.int .i64 0, .int .u64 0, .int .i64 0, .bool false]) := TyI.of (by kernel_rfl)
instance : TyU Tryd.prog 89 (Go.TypeDesc.tuple #[88, 88, 4]) := ⟨Tryd.underlying89⟩
instance : TyI Tryd.prog 89 1 0 (.tuple #[.agg #[.int .i64 0, .int .u64 0, .int .i64 0, .bool false], .agg #[.int .i64 0, .int .u64 0, .int .i64 0, .bool false], .bool false]) := TyI.of (by kernel_rfl)
instance : TyU Tryd.prog 90 (Go.TypeDesc.func #[36] #[88, 88, 4] Bool.false) := ⟨Tryd.underlying90⟩
instance : TyI Tryd.prog 90 1 8 (.nilFunc) := TyI.of (by kernel_rfl)
instance : TyU Tryd.prog 91 (Go.TypeDesc.func #[36] #[4] Bool.false) := ⟨Tryd.underlying91⟩
instance : TyI Tryd.prog 91 1 8 (.nilFunc) := TyI.of (by kernel_rfl)
instance : TyU Tryd.prog 92 (Go.TypeDesc.func #[88, 88] #[3] Bool.false) := ⟨Tryd.underlying92⟩
instance : TyI Tryd.prog 92 1 8 (.nilFunc) := TyI.of (by kernel_rfl)
instance : TyU Tryd.prog 93 (Go.TypeDesc.func #[34, 34] #[4] Bool.false) := ⟨Tryd.underlying93⟩
instance : TyI Tryd.prog 93 1 8 (.nilFunc) := TyI.of (by kernel_rfl)
instance : TyU Tryd.prog 94 (Go.TypeDesc.tuple #[20, 41]) := ⟨Tryd.underlying94⟩
instance : TyI Tryd.prog 94 1 0 (.tuple #[.nilIface, .nilIface]) := TyI.of (by kernel_rfl)
instance : TyU Tryd.prog 95 (Go.TypeDesc.func #[20] #[20, 41] Bool.false) := ⟨Tryd.underlying95⟩
instance : TyI Tryd.prog 95 1 8 (.nilFunc) := TyI.of (by kernel_rfl)
instance : TyU Tryd.prog 96 (Go.TypeDesc.func #[2, 2] #[3] Bool.false) := ⟨Tryd.underlying96⟩
instance : TyI Tryd.prog 96 1 8 (.nilFunc) := TyI.of (by kernel_rfl)
instance : TyU Tryd.prog 97 (Go.TypeDesc.func #[2, 34] #[3] Bool.false) := ⟨Tryd.underlying97⟩
instance : TyI Tryd.prog 97 1 8 (.nilFunc) := TyI.of (by kernel_rfl)
instance : TyU Tryd.prog 98 (Go.TypeDesc.func #[57, 57] #[3] Bool.false) := ⟨Tryd.underlying98⟩
instance : TyI Tryd.prog 98 1 8 (.nilFunc) := TyI.of (by kernel_rfl)
instance : TyU Tryd.prog 99 (Go.TypeDesc.func #[59, 59] #[3] Bool.false) := ⟨Tryd.underlying99⟩
instance : TyI Tryd.prog 99 1 8 (.nilFunc) := TyI.of (by kernel_rfl)
instance : TyU Tryd.prog 100 (Go.TypeDesc.func #[34, 2] #[3] Bool.false) := ⟨Tryd.underlying100⟩
instance : TyI Tryd.prog 100 1 8 (.nilFunc) := TyI.of (by kernel_rfl)
instance : TyU Tryd.prog 101 (Go.TypeDesc.func #[34, 34] #[3] Bool.false) := ⟨Tryd.underlying101⟩
instance : TyI Tryd.prog 101 1 8 (.nilFunc) := TyI.of (by kernel_rfl)
instance : TyU Tryd.prog 102 (Go.TypeDesc.func #[22, 22] #[3] Bool.false) := ⟨Tryd.underlying102⟩
instance : TyI Tryd.prog 102 1 8 (.nilFunc) := TyI.of (by kernel_rfl)
instance : TyU Tryd.prog 103 (Go.TypeDesc.func #[34] #[57] Bool.false) := ⟨Tryd.underlying103⟩
instance : TyI Tryd.prog 103 1 8 (.nilFunc) := TyI.of (by kernel_rfl)
instance : TyU Tryd.prog 104 (Go.TypeDesc.interface #[("AssignableTo", 152), ("Comparable", 23), ("Elem", 153), ("Implements", 152), ("Kind", 154), ("Name", 132), ("PkgPath", 132), ("Size", 155), ("String", 132), ("internal/reflectlite.common", 156), ("internal/reflectlite.uncommon", 157)]) := ⟨Tryd.underlying104⟩
instance : TyI Tryd.prog 104 1 16 (.nilIface) := TyI.of (by kernel_rfl)
instance : TyU Tryd.prog 105 (Go.TypeDesc.interface #[("AssignableTo", 152), ("Comparable", 23), ("Elem", 153), ("Implements", 152), ("Kind", 154), ("Name", 132), ("PkgPath", 132), ("Size", 155), ("String", 132), ("internal/reflectlite.common", 156), ("internal/reflectlite.uncommon", 157)]) := ⟨Tryd.underlying105⟩
instance : TyI Tryd.prog 105 1 16 (.nilIface) := TyI.of (by kernel_rfl)
instance : TyU Tryd.prog 106 (Go.TypeDesc.func #[20] #[105] Bool.false) := ⟨Tryd.underlying106⟩
instance : TyI Tryd.prog 106 1 8 (.nilFunc) := TyI.of (by kernel_rfl)
instance : TyU Tryd.prog 107 (Go.TypeDesc.func #[41, 41, 4] #[4] Bool.false) := ⟨Tryd.underlying107⟩
instance : TyI Tryd.prog 107 1 8 (.nilFunc) := TyI.of (by kernel_rfl)
instance : TyU Tryd.prog 108 (Go.TypeDesc.func #[5, 57, 75] #[] Bool.false) := ⟨Tryd.underlying108⟩
instance : TyI Tryd.prog 108 1 8 (.nilFunc) := TyI.of (by kernel_rfl)
instance : TyU Tryd.prog 109 (Go.TypeDesc.func #[9] #[41] Bool.false) := ⟨Tryd.underlying109⟩
instance : TyI Tryd.prog 109 1 8 (.nilFunc) := TyI.of (by kernel_rfl)
instance : TyU Tryd.prog 110 (Go.TypeDesc.func #[3, 3] #[3] Bool.false) := ⟨Tryd.underlying110⟩
instance : TyI Tryd.prog 110 1 8 (.nilFunc) := TyI.of (by kernel_rfl)
instance : TyU Tryd.prog 111 (Go.TypeDesc.func #[34] #[3] Bool.false) := ⟨Tryd.underlying111⟩
instance : TyI Tryd.prog 111 1 8 (.nilFunc) := TyI.of (by kernel_rfl)
instance : TyU Tryd.prog 112 (Go.TypeDesc.func #[5, 34, 75] #[] Bool.false) := ⟨Tryd.underlying112⟩
instance : TyI Tryd.prog 112 1 8 (.nilFunc) := TyI.of (by kernel_rfl)
instance : TyU Tryd.prog 113 (Go.TypeDesc.struct #[]) := ⟨Tryd.underlying113⟩
instance : TyI Tryd.prog 113 0 0 (.agg #[]) := TyI.of (by kernel_rfl)
instance : TyU Tryd.prog 114 (Go.TypeDesc.slice 9) := ⟨Tryd.underlying114⟩
instance : TyI Tryd.prog 114 1 24 (.slice none 0 0) := TyI.of (by kernel_rfl)
instance : TyU Tryd.prog 115 (Go.TypeDesc.func #[] #[114] Bool.false) := ⟨Tryd.underlying115⟩
instance : TyI Tryd.prog 115 1 8 (.nilFunc) := TyI.of (by kernel_rfl)
instance : TyU Tryd.prog 116 (Go.TypeDesc.func #[4, 34] #[88] Bool.false) := ⟨Tryd.underlying116⟩
instance : TyI Tryd.prog 116 1 8 (.nilFunc) := TyI.of (by kernel_rfl)
instance : TyU Tryd.prog 117 (Go.TypeDesc.tuple #[88, 4]) := ⟨Tryd.underlying117⟩
instance : TyI Tryd.prog 117 1 0 (.tuple #[.agg #[.int .i64 0, .int .u64 0, .int .i64 0, .bool false], .bool false]) := TyI.of (by kernel_rfl)
instance : TyU Tryd.prog 118 (Go.TypeDesc.func #[34] #[88, 4] Bool.false) := ⟨Tryd.underlying118⟩
instance : TyI Tryd.prog 118 1 8 (.nilFunc) := TyI.of (by kernel_rfl)
instance : TyU Tryd.prog 119 (Go.TypeDesc.struct #[{ name := "Type", type := 17, offset := 0, embedded := Bool.true, tag := "", pkgPath := "", byteOffset := 0 }]) := ⟨Tryd.underlying119⟩
instance : TyU Tryd.prog 120 (Go.TypeDesc.struct #[{ name := "Type", type := 17, offset := 0, embedded := Bool.true, tag := "", pkgPath := "", byteOffset := 0 }]) := ⟨Tryd.underlying120⟩
instance : TyU Tryd.prog 121 (Go.TypeDesc.pointer 159) := ⟨Tryd.underlying121⟩
instance : TyI Tryd.prog 121 1 8 (.pointer none) := TyI.of (by kernel_rfl)
instance : TyU Tryd.prog 122 (Go.TypeDesc.interface #[("Is", 67)]) := ⟨Tryd.underlying122⟩
instance : TyI Tryd.prog 122 1 16 (.nilIface) := TyI.of (by kernel_rfl)
instance : TyU Tryd.prog 123 (Go.TypeDesc.tuple #[122, 4]) := ⟨Tryd.underlying123⟩
instance : TyI Tryd.prog 123 1 0 (.tuple #[.nilIface, .bool false]) := TyI.of (by kernel_rfl)
instance : TyU Tryd.prog 124 (Go.TypeDesc.interface #[("Unwrap", 125)]) := ⟨Tryd.underlying124⟩
instance : TyI Tryd.prog 124 1 16 (.nilIface) := TyI.of (by kernel_rfl)
instance : TyU Tryd.prog 125 (Go.TypeDesc.func #[] #[41] Bool.false) := ⟨Tryd.underlying125⟩
instance : TyI Tryd.prog 125 1 8 (.nilFunc) := TyI.of (by kernel_rfl)
instance : TyU Tryd.prog 126 (Go.TypeDesc.interface #[("Unwrap", 128)]) := ⟨Tryd.underlying126⟩
instance : TyI Tryd.prog 126 1 16 (.nilIface) := TyI.of (by kernel_rfl)
instance : TyU Tryd.prog 127 (Go.TypeDesc.slice 41) := ⟨Tryd.underlying127⟩
instance : TyI Tryd.prog 127 1 24 (.slice none 0 0) := TyI.of (by kernel_rfl)
instance : TyU Tryd.prog 128 (Go.TypeDesc.func #[] #[127] Bool.false) := ⟨Tryd.underlying128⟩
instance : TyI Tryd.prog 128 1 8 (.nilFunc) := TyI.of (by kernel_rfl)
instance : TyU Tryd.prog 129 (Go.TypeDesc.pointer 131) := ⟨Tryd.underlying129⟩
instance : TyI Tryd.prog 129 1 8 (.pointer none) := TyI.of (by kernel_rfl)
instance : TyU Tryd.prog 130 (Go.TypeDesc.struct #[{ name := "s", type := 9, offset := 0, embedded := Bool.false, tag := "", pkgPath := "errors", byteOffset := 0 }]) := ⟨Tryd.underlying130⟩
instance : TyI Tryd.prog 130 1 16 (.agg #[.string ByteArray.empty]) := TyI.of (by kernel_rfl)
instance : TyU Tryd.prog 131 (Go.TypeDesc.struct #[{ name := "s", type := 9, offset := 0, embedded := Bool.false, tag := "", pkgPath := "errors", byteOffset := 0 }]) := ⟨Tryd.underlying131⟩
instance : TyI Tryd.prog 131 1 16 (.agg #[.string ByteArray.empty]) := TyI.of (by kernel_rfl)
instance : TyU Tryd.prog 132 (Go.TypeDesc.func #[] #[9] Bool.false) := ⟨Tryd.underlying132⟩
instance : TyI Tryd.prog 132 1 8 (.nilFunc) := TyI.of (by kernel_rfl)
instance : TyU Tryd.prog 133 (Go.TypeDesc.struct #[{ name := "_interface", type := 17, offset := 0, embedded := Bool.false, tag := "", pkgPath := "runtime", byteOffset := 0 }, { name := "concrete", type := 17, offset := 1, embedded := Bool.false, tag := "", pkgPath := "runtime", byteOffset := 8 }, { name := "asserted", type := 17, offset := 2, embedded := Bool.false, tag := "", pkgPath := "runtime", byteOffset := 16 }, { name := "missingMethod", type := 9, offset := 3, embedded := Bool.false, tag := "", pkgPath := "runtime", byteOffset := 24 }]) := ⟨Tryd.underlying133⟩
instance : TyI Tryd.prog 133 4 40 (.agg #[.pointer none, .pointer none, .pointer none, .string ByteArray.empty]) := TyI.of (by kernel_rfl)
instance : TyU Tryd.prog 134 (Go.TypeDesc.struct #[{ name := "_interface", type := 17, offset := 0, embedded := Bool.false, tag := "", pkgPath := "runtime", byteOffset := 0 }, { name := "concrete", type := 17, offset := 1, embedded := Bool.false, tag := "", pkgPath := "runtime", byteOffset := 8 }, { name := "asserted", type := 17, offset := 2, embedded := Bool.false, tag := "", pkgPath := "runtime", byteOffset := 16 }, { name := "missingMethod", type := 9, offset := 3, embedded := Bool.false, tag := "", pkgPath := "runtime", byteOffset := 24 }]) := ⟨Tryd.underlying134⟩
instance : TyI Tryd.prog 134 4 40 (.agg #[.pointer none, .pointer none, .pointer none, .string ByteArray.empty]) := TyI.of (by kernel_rfl)
instance : TyU Tryd.prog 135 (Go.TypeDesc.array 0 16) := ⟨Tryd.underlying135⟩
instance : TyI Tryd.prog 135 0 0 (.agg #[]) := TyI.of (by kernel_rfl)
instance : TyU Tryd.prog 136 (Go.TypeDesc.struct #[{ name := "_", type := 135, offset := 0, embedded := Bool.false, tag := "", pkgPath := "runtime", byteOffset := 0 }]) := ⟨Tryd.underlying136⟩
instance : TyI Tryd.prog 136 0 0 (.agg #[]) := TyI.of (by kernel_rfl)
instance : TyU Tryd.prog 137 (Go.TypeDesc.struct #[{ name := "_", type := 135, offset := 0, embedded := Bool.false, tag := "", pkgPath := "runtime", byteOffset := 0 }]) := ⟨Tryd.underlying137⟩
instance : TyI Tryd.prog 137 0 0 (.agg #[]) := TyI.of (by kernel_rfl)
instance : TyU Tryd.prog 138 (Go.TypeDesc.func #[] #[3] Bool.false) := ⟨Tryd.underlying138⟩
instance : TyI Tryd.prog 138 1 8 (.nilFunc) := TyI.of (by kernel_rfl)
instance : TyU Tryd.prog 139 (Go.TypeDesc.int Go.IntKind.u8) := ⟨Tryd.underlying139⟩
instance : TyI Tryd.prog 139 1 1 (.int .u8 0) := TyI.of (by kernel_rfl)
instance : TyU Tryd.prog 140 (Go.TypeDesc.int Go.IntKind.u8) := ⟨Tryd.underlying140⟩
instance : TyI Tryd.prog 140 1 1 (.int .u8 0) := TyI.of (by kernel_rfl)
instance : TyU Tryd.prog 141 (Go.TypeDesc.func #[160, 160] #[4] Bool.false) := ⟨Tryd.underlying141⟩
instance : TyI Tryd.prog 141 1 8 (.nilFunc) := TyI.of (by kernel_rfl)
instance : TyU Tryd.prog 142 (Go.TypeDesc.pointer 5) := ⟨Tryd.underlying142⟩
instance : TyI Tryd.prog 142 1 8 (.pointer none) := TyI.of (by kernel_rfl)
instance : TyU Tryd.prog 143 (Go.TypeDesc.int Go.IntKind.i32) := ⟨Tryd.underlying143⟩
instance : TyI Tryd.prog 143 1 4 (.int .i32 0) := TyI.of (by kernel_rfl)
instance : TyU Tryd.prog 144 (Go.TypeDesc.int Go.IntKind.i32) := ⟨Tryd.underlying144⟩
instance : TyI Tryd.prog 144 1 4 (.int .i32 0) := TyI.of (by kernel_rfl)
instance : TyU Tryd.prog 145 (Go.TypeDesc.struct #[{ name := "Size_", type := 12, offset := 0, embedded := Bool.false, tag := "", pkgPath := "", byteOffset := 0 }, { name := "PtrBytes", type := 12, offset := 1, embedded := Bool.false, tag := "", pkgPath := "", byteOffset := 8 }, { name := "Hash", type := 84, offset := 2, embedded := Bool.false, tag := "", pkgPath := "", byteOffset := 16 }, { name := "TFlag", type := 139, offset := 3, embedded := Bool.false, tag := "", pkgPath := "", byteOffset := 20 }, { name := "Align_", type := 5, offset := 4, embedded := Bool.false, tag := "", pkgPath := "", byteOffset := 21 }, { name := "FieldAlign_", type := 5, offset := 5, embedded := Bool.false, tag := "", pkgPath := "", byteOffset := 22 }, { name := "Kind_", type := 140, offset := 6, embedded := Bool.false, tag := "", pkgPath := "", byteOffset := 23 }, { name := "Equal", type := 141, offset := 7, embedded := Bool.false, tag := "", pkgPath := "", byteOffset := 24 }, { name := "GCData", type := 142, offset := 8, embedded := Bool.false, tag := "", pkgPath := "", byteOffset := 32 }, { name := "Str", type := 143, offset := 9, embedded := Bool.false, tag := "", pkgPath := "", byteOffset := 40 }, { name := "PtrToThis", type := 144, offset := 10, embedded := Bool.false, tag := "", pkgPath := "", byteOffset := 44 }]) := ⟨Tryd.underlying145⟩
instance : TyI Tryd.prog 145 11 48 (.agg #[.int .u64 0, .int .u64 0, .int .u32 0, .int .u8 0, .int .u8 0, .int .u8 0, .int .u8 0, .nilFunc, .pointer none, .int .i32 0, .int .i32 0]) := TyI.of (by kernel_rfl)
instance : TyU Tryd.prog 146 (Go.TypeDesc.struct #[{ name := "Size_", type := 12, offset := 0, embedded := Bool.false, tag := "", pkgPath := "", byteOffset := 0 }, { name := "PtrBytes", type := 12, offset := 1, embedded := Bool.false, tag := "", pkgPath := "", byteOffset := 8 }, { name := "Hash", type := 84, offset := 2, embedded := Bool.false, tag := "", pkgPath := "", byteOffset := 16 }, { name := "TFlag", type := 139, offset := 3, embedded := Bool.false, tag := "", pkgPath := "", byteOffset := 20 }, { name := "Align_", type := 5, offset := 4, embedded := Bool.false, tag := "", pkgPath := "", byteOffset := 21 }, { name := "FieldAlign_", type := 5, offset := 5, embedded := Bool.false, tag := "", pkgPath := "", byteOffset := 22 }, { name := "Kind_", type := 140, offset := 6, embedded := Bool.false, tag := "", pkgPath := "", byteOffset := 23 }, { name := "Equal", type := 141, offset := 7, embedded := Bool.false, tag := "", pkgPath := "", byteOffset := 24 }, { name := "GCData", type := 142, offset := 8, embedded := Bool.false, tag := "", pkgPath := "", byteOffset := 32 }, { name := "Str", type := 143, offset := 9, embedded := Bool.false, tag := "", pkgPath := "", byteOffset := 40 }, { name := "PtrToThis", type := 144, offset := 10, embedded := Bool.false, tag := "", pkgPath := "", byteOffset := 44 }]) := ⟨Tryd.underlying146⟩
instance : TyI Tryd.prog 146 11 48 (.agg #[.int .u64 0, .int .u64 0, .int .u32 0, .int .u8 0, .int .u8 0, .int .u8 0, .int .u8 0, .nilFunc, .pointer none, .int .i32 0, .int .i32 0]) := TyI.of (by kernel_rfl)
instance : TyU Tryd.prog 147 (Go.TypeDesc.struct #[{ name := "Src", type := 9, offset := 0, embedded := Bool.false, tag := "", pkgPath := "", byteOffset := 0 }]) := ⟨Tryd.underlying147⟩
instance : TyI Tryd.prog 147 1 16 (.agg #[.string ByteArray.empty]) := TyI.of (by kernel_rfl)
instance : TyU Tryd.prog 148 (Go.TypeDesc.struct #[{ name := "Src", type := 9, offset := 0, embedded := Bool.false, tag := "", pkgPath := "", byteOffset := 0 }]) := ⟨Tryd.underlying148⟩
instance : TyI Tryd.prog 148 1 16 (.agg #[.string ByteArray.empty]) := TyI.of (by kernel_rfl)
instance : TyU Tryd.prog 149 (Go.TypeDesc.int Go.IntKind.i64) := ⟨Tryd.underlying149⟩
instance : TyI Tryd.prog 149 1 8 (.int .i64 0) := TyI.of (by kernel_rfl)
instance : TyU Tryd.prog 150 (Go.TypeDesc.struct #[{ name := "Type", type := 149, offset := 0, embedded := Bool.false, tag := "", pkgPath := "", byteOffset := 0 }, { name := "Off", type := 2, offset := 1, embedded := Bool.false, tag := "", pkgPath := "", byteOffset := 8 }, { name := "Arg", type := 2, offset := 2, embedded := Bool.false, tag := "", pkgPath := "", byteOffset := 16 }, { name := "Arg2", type := 2, offset := 3, embedded := Bool.false, tag := "", pkgPath := "", byteOffset := 24 }, { name := "Arg3", type := 2, offset := 4, embedded := Bool.false, tag := "", pkgPath := "", byteOffset := 32 }, { name := "Name", type := 9, offset := 5, embedded := Bool.false, tag := "", pkgPath := "", byteOffset := 40 }, { name := "More", type := 20, offset := 6, embedded := Bool.false, tag := "", pkgPath := "", byteOffset := 56 }]) := ⟨Tryd.underlying150⟩
instance : TyI Tryd.prog 150 7 72 (.agg #[.int .i64 0, .int .i64 0, .int .i64 0, .int .i64 0, .int .i64 0, .string ByteArray.empty, .nilIface]) := TyI.of (by kernel_rfl)
instance : TyU Tryd.prog 151 (Go.TypeDesc.struct #[{ name := "Type", type := 149, offset := 0, embedded := Bool.false, tag := "", pkgPath := "", byteOffset := 0 }, { name := "Off", type := 2, offset := 1, embedded := Bool.false, tag := "", pkgPath := "", byteOffset := 8 }, { name := "Arg", type := 2, offset := 2, embedded := Bool.false, tag := "", pkgPath := "", byteOffset := 16 }, { name := "Arg2", type := 2, offset := 3, embedded := Bool.false, tag := "", pkgPath := "", byteOffset := 24 }, { name := "Arg3", type := 2, offset := 4, embedded := Bool.false, tag := "", pkgPath := "", byteOffset := 32 }, { name := "Name", type := 9, offset := 5, embedded := Bool.false, tag := "", pkgPath := "", byteOffset := 40 }, { name := "More", type := 20, offset := 6, embedded := Bool.false, tag := "", pkgPath := "", byteOffset := 56 }]) := ⟨Tryd.underlying151⟩
instance : TyI Tryd.prog 151 7 72 (.agg #[.int .i64 0, .int .i64 0, .int .i64 0, .int .i64 0, .int .i64 0, .string ByteArray.empty, .nilIface]) := TyI.of (by kernel_rfl)
instance : TyU Tryd.prog 152 (Go.TypeDesc.func #[105] #[4] Bool.false) := ⟨Tryd.underlying152⟩
instance : TyI Tryd.prog 152 1 8 (.nilFunc) := TyI.of (by kernel_rfl)
instance : TyU Tryd.prog 153 (Go.TypeDesc.func #[] #[105] Bool.false) := ⟨Tryd.underlying153⟩
instance : TyI Tryd.prog 153 1 8 (.nilFunc) := TyI.of (by kernel_rfl)
instance : TyU Tryd.prog 154 (Go.TypeDesc.func #[] #[140] Bool.false) := ⟨Tryd.underlying154⟩
instance : TyI Tryd.prog 154 1 8 (.nilFunc) := TyI.of (by kernel_rfl)
instance : TyU Tryd.prog 155 (Go.TypeDesc.func #[] #[12] Bool.false) := ⟨Tryd.underlying155⟩
instance : TyI Tryd.prog 155 1 8 (.nilFunc) := TyI.of (by kernel_rfl)
instance : TyU Tryd.prog 156 (Go.TypeDesc.func #[] #[17] Bool.false) := ⟨Tryd.underlying156⟩
instance : TyI Tryd.prog 156 1 8 (.nilFunc) := TyI.of (by kernel_rfl)
instance : TyU Tryd.prog 157 (Go.TypeDesc.func #[] #[161] Bool.false) := ⟨Tryd.underlying157⟩
instance : TyI Tryd.prog 157 1 8 (.nilFunc) := TyI.of (by kernel_rfl)
instance : TyU Tryd.prog 158 (Go.TypeDesc.struct #[{ name := "Method", type := 9, offset := 0, embedded := Bool.false, tag := "", pkgPath := "", byteOffset := 0 }, { name := "Kind", type := 140, offset := 1, embedded := Bool.false, tag := "", pkgPath := "", byteOffset := 16 }]) := ⟨Tryd.underlying158⟩
instance : TyI Tryd.prog 158 2 24 (.agg #[.string ByteArray.empty, .int .u8 0]) := TyI.of (by kernel_rfl)
instance : TyU Tryd.prog 159 (Go.TypeDesc.struct #[{ name := "Method", type := 9, offset := 0, embedded := Bool.false, tag := "", pkgPath := "", byteOffset := 0 }, { name := "Kind", type := 140, offset := 1, embedded := Bool.false, tag := "", pkgPath := "", byteOffset := 16 }]) := ⟨Tryd.underlying159⟩
instance : TyI Tryd.prog 159 2 24 (.agg #[.string ByteArray.empty, .int .u8 0]) := TyI.of (by kernel_rfl)
instance : TyU Tryd.prog 160 (Go.TypeDesc.unsafePointer) := ⟨Tryd.underlying160⟩
instance : TyI Tryd.prog 160 1 8 (.pointer none) := TyI.of (by kernel_rfl)
instance : TyU Tryd.prog 161 (Go.TypeDesc.pointer 164) := ⟨Tryd.underlying161⟩
instance : TyI Tryd.prog 161 1 8 (.pointer none) := TyI.of (by kernel_rfl)
instance : TyU Tryd.prog 162 (Go.TypeDesc.func #[] #[165] Bool.false) := ⟨Tryd.underlying162⟩
instance : TyI Tryd.prog 162 1 8 (.nilFunc) := TyI.of (by kernel_rfl)
instance : TyU Tryd.prog 163 (Go.TypeDesc.struct #[{ name := "PkgPath", type := 143, offset := 0, embedded := Bool.false, tag := "", pkgPath := "", byteOffset := 0 }, { name := "Mcount", type := 83, offset := 1, embedded := Bool.false, tag := "", pkgPath := "", byteOffset := 4 }, { name := "Xcount", type := 83, offset := 2, embedded := Bool.false, tag := "", pkgPath := "", byteOffset := 6 }, { name := "Moff", type := 84, offset := 3, embedded := Bool.false, tag := "", pkgPath := "", byteOffset := 8 }, { name := "_", type := 84, offset := 4, embedded := Bool.false, tag := "", pkgPath := "internal/abi", byteOffset := 12 }]) := ⟨Tryd.underlying163⟩
instance : TyI Tryd.prog 163 5 16 (.agg #[.int .i32 0, .int .u16 0, .int .u16 0, .int .u32 0, .int .u32 0]) := TyI.of (by kernel_rfl)
instance : TyU Tryd.prog 164 (Go.TypeDesc.struct #[{ name := "PkgPath", type := 143, offset := 0, embedded := Bool.false, tag := "", pkgPath := "", byteOffset := 0 }, { name := "Mcount", type := 83, offset := 1, embedded := Bool.false, tag := "", pkgPath := "", byteOffset := 4 }, { name := "Xcount", type := 83, offset := 2, embedded := Bool.false, tag := "", pkgPath := "", byteOffset := 6 }, { name := "Moff", type := 84, offset := 3, embedded := Bool.false, tag := "", pkgPath := "", byteOffset := 8 }, { name := "_", type := 84, offset := 4, embedded := Bool.false, tag := "", pkgPath := "internal/abi", byteOffset := 12 }]) := ⟨Tryd.underlying164⟩
instance : TyI Tryd.prog 164 5 16 (.agg #[.int .i32 0, .int .u16 0, .int .u16 0, .int .u32 0, .int .u32 0]) := TyI.of (by kernel_rfl)
instance : TyU Tryd.prog 165 (Go.TypeDesc.slice 168) := ⟨Tryd.underlying165⟩
instance : TyI Tryd.prog 165 1 24 (.slice none 0 0) := TyI.of (by kernel_rfl)
instance : TyU Tryd.prog 166 (Go.TypeDesc.int Go.IntKind.i32) := ⟨Tryd.underlying166⟩
instance : TyI Tryd.prog 166 1 4 (.int .i32 0) := TyI.of (by kernel_rfl)
instance : TyU Tryd.prog 167 (Go.TypeDesc.struct #[{ name := "Name", type := 143, offset := 0, embedded := Bool.false, tag := "", pkgPath := "", byteOffset := 0 }, { name := "Mtyp", type := 144, offset := 1, embedded := Bool.false, tag := "", pkgPath := "", byteOffset := 4 }, { name := "Ifn", type := 166, offset := 2, embedded := Bool.false, tag := "", pkgPath := "", byteOffset := 8 }, { name := "Tfn", type := 166, offset := 3, embedded := Bool.false, tag := "", pkgPath := "", byteOffset := 12 }]) := ⟨Tryd.underlying167⟩
instance : TyI Tryd.prog 167 4 16 (.agg #[.int .i32 0, .int .i32 0, .int .i32 0, .int .i32 0]) := TyI.of (by kernel_rfl)
instance : TyU Tryd.prog 168 (Go.TypeDesc.struct #[{ name := "Name", type := 143, offset := 0, embedded := Bool.false, tag := "", pkgPath := "", byteOffset := 0 }, { name := "Mtyp", type := 144, offset := 1, embedded := Bool.false, tag := "", pkgPath := "", byteOffset := 4 }, { name := "Ifn", type := 166, offset := 2, embedded := Bool.false, tag := "", pkgPath := "", byteOffset := 8 }, { name := "Tfn", type := 166, offset := 3, embedded := Bool.false, tag := "", pkgPath := "", byteOffset := 12 }]) := ⟨Tryd.underlying168⟩
instance : TyI Tryd.prog 168 4 16 (.agg #[.int .i32 0, .int .i32 0, .int .i32 0, .int .i32 0]) := TyI.of (by kernel_rfl)
instance : EnF Tryd.prog 2 := EnF.of Tryd.func2 (by kernel_rfl) (by kernel_rfl)
instance : EnF Tryd.prog 3 := EnF.of Tryd.func3 (by kernel_rfl) (by kernel_rfl)
instance : EnF Tryd.prog 4 := EnF.of Tryd.func4 (by kernel_rfl) (by kernel_rfl)
instance : EnF Tryd.prog 5 := EnF.of Tryd.func5 (by kernel_rfl) (by kernel_rfl)
instance : EnF Tryd.prog 6 := EnF.of Tryd.func6 (by kernel_rfl) (by kernel_rfl)
instance : EnF Tryd.prog 7 := EnF.of Tryd.func7 (by kernel_rfl) (by kernel_rfl)
instance : EnF Tryd.prog 8 := EnF.of Tryd.func8 (by kernel_rfl) (by kernel_rfl)
instance : EnF Tryd.prog 9 := EnF.of Tryd.func9 (by kernel_rfl) (by kernel_rfl)
instance : EnF Tryd.prog 10 := EnF.of Tryd.func10 (by kernel_rfl) (by kernel_rfl)
instance : EnF Tryd.prog 11 := EnF.of Tryd.func11 (by kernel_rfl) (by kernel_rfl)
instance : EnF Tryd.prog 12 := EnF.of Tryd.func12 (by kernel_rfl) (by kernel_rfl)
instance : EnF Tryd.prog 13 := EnF.of Tryd.func13 (by kernel_rfl) (by kernel_rfl)
instance : EnF Tryd.prog 14 := EnF.of Tryd.func14 (by kernel_rfl) (by kernel_rfl)
instance : EnF Tryd.prog 15 := EnF.of Tryd.func15 (by kernel_rfl) (by kernel_rfl)
instance : EnF Tryd.prog 16 := EnF.of Tryd.func16 (by kernel_rfl) (by kernel_rfl)
instance : EnF Tryd.prog 17 := EnF.of Tryd.func17 (by kernel_rfl) (by kernel_rfl)
instance : EnF Tryd.prog 18 := EnF.of Tryd.func18 (by kernel_rfl) (by kernel_rfl)
instance : EnF Tryd.prog 19 := EnF.of Tryd.func19 (by kernel_rfl) (by kernel_rfl)
instance : EnF Tryd.prog 20 := EnF.of Tryd.func20 (by kernel_rfl) (by kernel_rfl)
instance : EnF Tryd.prog 21 := EnF.of Tryd.func21 (by kernel_rfl) (by kernel_rfl)
instance : EnF Tryd.prog 22 := EnF.of Tryd.func22 (by kernel_rfl) (by kernel_rfl)
instance : EnF Tryd.prog 23 := EnF.of Tryd.func23 (by kernel_rfl) (by kernel_rfl)
instance : EnF Tryd.prog 24 := EnF.of Tryd.func24 (by kernel_rfl) (by kernel_rfl)
instance : EnF Tryd.prog 25 := EnF.of Tryd.func25 (by kernel_rfl) (by kernel_rfl)
instance : EnF Tryd.prog 26 := EnF.of Tryd.func26 (by kernel_rfl) (by kernel_rfl)
instance : EnF Tryd.prog 28 := EnF.of Tryd.func28 (by kernel_rfl) (by kernel_rfl)
instance : EnF Tryd.prog 29 := EnF.of Tryd.func29 (by kernel_rfl) (by kernel_rfl)
instance : EnF Tryd.prog 30 := EnF.of Tryd.func30 (by kernel_rfl) (by kernel_rfl)
instance : EnF Tryd.prog 31 := EnF.of Tryd.func31 (by kernel_rfl) (by kernel_rfl)
instance : EnF Tryd.prog 32 := EnF.of Tryd.func32 (by kernel_rfl) (by kernel_rfl)
instance : EnF Tryd.prog 33 := EnF.of Tryd.func33 (by kernel_rfl) (by kernel_rfl)
instance : EnF Tryd.prog 34 := EnF.of Tryd.func34 (by kernel_rfl) (by kernel_rfl)
instance : EnF Tryd.prog 35 := EnF.of Tryd.func35 (by kernel_rfl) (by kernel_rfl)
instance : EnF Tryd.prog 36 := EnF.of Tryd.func36 (by kernel_rfl) (by kernel_rfl)
instance : EnF Tryd.prog 37 := EnF.of Tryd.func37 (by kernel_rfl) (by kernel_rfl)
instance : EnF Tryd.prog 38 := EnF.of Tryd.func38 (by kernel_rfl) (by kernel_rfl)
instance : EnF Tryd.prog 39 := EnF.of Tryd.func39 (by kernel_rfl) (by kernel_rfl)
instance : EnF Tryd.prog 40 := EnF.of Tryd.func40 (by kernel_rfl) (by kernel_rfl)
instance : EnF Tryd.prog 41 := EnF.of Tryd.func41 (by kernel_rfl) (by kernel_rfl)
instance : EnF Tryd.prog 42 := EnF.of Tryd.func42 (by kernel_rfl) (by kernel_rfl)
instance : EnF Tryd.prog 43 := EnF.of Tryd.func43 (by kernel_rfl) (by kernel_rfl)
instance : EnF Tryd.prog 44 := EnF.of Tryd.func44 (by kernel_rfl) (by kernel_rfl)
instance : EnF Tryd.prog 45 := EnF.of Tryd.func45 (by kernel_rfl) (by kernel_rfl)
instance : EnF Tryd.prog 46 := EnF.of Tryd.func46 (by kernel_rfl) (by kernel_rfl)
instance : EnF Tryd.prog 47 := EnF.of Tryd.func47 (by kernel_rfl) (by kernel_rfl)
instance : EnF Tryd.prog 48 := EnF.of Tryd.func48 (by kernel_rfl) (by kernel_rfl)
instance : EnF Tryd.prog 49 := EnF.of Tryd.func49 (by kernel_rfl) (by kernel_rfl)
instance : EnF Tryd.prog 50 := EnF.of Tryd.func50 (by kernel_rfl) (by kernel_rfl)
instance : EnF Tryd.prog 51 := EnF.of Tryd.func51 (by kernel_rfl) (by kernel_rfl)
instance : EnF Tryd.prog 52 := EnF.of Tryd.func52 (by kernel_rfl) (by kernel_rfl)
instance : EnF Tryd.prog 55 := EnF.of Tryd.func55 (by kernel_rfl) (by kernel_rfl)
instance : EnF Tryd.prog 56 := EnF.of Tryd.func56 (by kernel_rfl) (by kernel_rfl)
instance : EnF Tryd.prog 57 := EnF.of Tryd.func57 (by kernel_rfl) (by kernel_rfl)
instance : EnF Tryd.prog 58 := EnF.of Tryd.func58 (by kernel_rfl) (by kernel_rfl)
instance : EnF Tryd.prog 59 := EnF.of Tryd.func59 (by kernel_rfl) (by kernel_rfl)
instance : EnF Tryd.prog 60 := EnF.of Tryd.func60 (by kernel_rfl) (by kernel_rfl)
instance : EnF Tryd.prog 61 := EnF.of Tryd.func61 (by kernel_rfl) (by kernel_rfl)
instance : EnF Tryd.prog 62 := EnF.of Tryd.func62 (by kernel_rfl) (by kernel_rfl)
instance : EnF Tryd.prog 63 := EnF.of Tryd.func63 (by kernel_rfl) (by kernel_rfl)
instance : EnF Tryd.prog 64 := EnF.of Tryd.func64 (by kernel_rfl) (by kernel_rfl)
instance : EnF Tryd.prog 66 := EnF.of Tryd.func66 (by kernel_rfl) (by kernel_rfl)
instance : EnF Tryd.prog 67 := EnF.of Tryd.func67 (by kernel_rfl) (by kernel_rfl)
instance : EnF Tryd.prog 106 := EnF.of Tryd.func106 (by kernel_rfl) (by kernel_rfl)
end Go.Proofs.YtfebpbflpdppiaaDoor
