/- The tables that the walks look things up in: of each type its form, size and zero; of each function that it is entered. Printed by a program (wip/tools/gentab.py) · The second part of the calculus: slices, literals, regions in whatever order · The third part of the calculus. -/
import Derived.Test.YtfebpbflpdppiaaGreatDoorL01
import Derived.Test.YtfebpbflpdppiaaGreatDoorProg
namespace Go.Proofs.YtfebpbflpdppiaaGreatDoor
open Go Go.Sl
set_option maxRecDepth 100000
instance : TyU Tryz.prog 2 (Go.TypeDesc.int Go.IntKind.i64) := ⟨Tryz.underlying2⟩
instance : TyI Tryz.prog 2 1 8 (.int .i64 0) := TyI.of (by kernel_rfl)
instance : TyU Tryz.prog 3 (Go.TypeDesc.int Go.IntKind.i64) := ⟨Tryz.underlying3⟩
instance : TyI Tryz.prog 3 1 8 (.int .i64 0) := TyI.of (by kernel_rfl)
instance : TyU Tryz.prog 4 (Go.TypeDesc.bool) := ⟨Tryz.underlying4⟩
instance : TyI Tryz.prog 4 1 1 (.bool false) := TyI.of (by kernel_rfl)
instance : TyU Tryz.prog 5 (Go.TypeDesc.int Go.IntKind.u8) := ⟨Tryz.underlying5⟩
instance : TyI Tryz.prog 5 1 1 (.int .u8 0) := TyI.of (by kernel_rfl)
instance : TyU Tryz.prog 9 (Go.TypeDesc.string) := ⟨Tryz.underlying9⟩
instance : TyU Tryz.prog 20 (Go.TypeDesc.interface #[]) := ⟨Tryz.underlying20⟩
instance : TyU Tryz.prog 22 (Go.TypeDesc.slice 5) := ⟨Tryz.underlying22⟩
instance : TyI Tryz.prog 22 1 24 (.slice none 0 0) := TyI.of (by kernel_rfl)
instance : TyU Tryz.prog 23 (Go.TypeDesc.slice 29) := ⟨Tryz.underlying23⟩
instance : TyU Tryz.prog 24 (Go.TypeDesc.slice 43) := ⟨Tryz.underlying24⟩
instance : TyU Tryz.prog 29 (Go.TypeDesc.struct #[{ name := "Kind", type := 9, offset := 0, embedded := Bool.false, tag := "", pkgPath := "", byteOffset := 0 }, { name := "Off", type := 2, offset := 1, embedded := Bool.false, tag := "", pkgPath := "", byteOffset := 16 }]) := ⟨Tryz.underlying29⟩
instance : TyI Tryz.prog 29 2 24 (.agg #[.string ByteArray.empty, .int .i64 0]) := TyI.of (by kernel_rfl)
instance : TyU Tryz.prog 30 (Go.TypeDesc.slice 46) := ⟨Tryz.underlying30⟩
instance : TyI Tryz.prog 30 1 24 (.slice none 0 0) := TyI.of (by kernel_rfl)
instance : TyU Tryz.prog 31 (Go.TypeDesc.slice 2) := ⟨Tryz.underlying31⟩
instance : TyI Tryz.prog 31 1 24 (.slice none 0 0) := TyI.of (by kernel_rfl)
instance : TyU Tryz.prog 43 (Go.TypeDesc.struct #[{ name := "Do", type := 9, offset := 0, embedded := Bool.false, tag := "", pkgPath := "", byteOffset := 0 }, { name := "Off", type := 2, offset := 1, embedded := Bool.false, tag := "", pkgPath := "", byteOffset := 16 }, { name := "N", type := 2, offset := 2, embedded := Bool.false, tag := "", pkgPath := "", byteOffset := 24 }, { name := "Data", type := 22, offset := 3, embedded := Bool.false, tag := "", pkgPath := "", byteOffset := 32 }]) := ⟨Tryz.underlying43⟩
instance : TyI Tryz.prog 43 4 56 (.agg #[.string ByteArray.empty, .int .i64 0, .int .i64 0, .slice none 0 0]) := TyI.of (by kernel_rfl)
instance : TyU Tryz.prog 46 (Go.TypeDesc.struct #[{ name := "Err", type := 3, offset := 0, embedded := Bool.false, tag := "", pkgPath := "", byteOffset := 0 }, { name := "N", type := 2, offset := 1, embedded := Bool.false, tag := "", pkgPath := "", byteOffset := 8 }, { name := "Data", type := 22, offset := 2, embedded := Bool.false, tag := "", pkgPath := "", byteOffset := 16 }]) := ⟨Tryz.underlying46⟩
instance : TyI Tryz.prog 46 3 40 (.agg #[.int .i64 0, .int .i64 0, .slice none 0 0]) := TyI.of (by kernel_rfl)
instance : TyU Tryz.prog 47 (Go.TypeDesc.pointer 85) := ⟨Tryz.underlying47⟩
instance : TyI Tryz.prog 47 1 8 (.pointer none) := TyI.of (by kernel_rfl)
instance : TyU Tryz.prog 50 (Go.TypeDesc.interface #[("Error", 155)]) := ⟨Tryz.underlying50⟩
instance : TyU Tryz.prog 54 (Go.TypeDesc.interface #[("BeginUpdate", 108), ("Close", 108), ("EndUpdate", 108), ("Name", 155), ("PunchHole", 116), ("ReadAt", 52), ("Rollback", 108), ("Size", 87), ("Sync", 108), ("Truncate", 61), ("WriteAt", 52)]) := ⟨Tryz.underlying54⟩
instance : TyI Tryz.prog 54 1 16 (.nilIface) := TyI.of (by kernel_rfl)
instance : TyU Tryz.prog 56 (Go.TypeDesc.pointer 89) := ⟨Tryz.underlying56⟩
instance : TyU Tryz.prog 58 (Go.TypeDesc.pointer 110) := ⟨Tryz.underlying58⟩
instance : TyU Tryz.prog 61 (Go.TypeDesc.func #[2] #[50] Bool.false) := ⟨Tryz.underlying61⟩
instance : TyU Tryz.prog 68 (Go.TypeDesc.slice 123) := ⟨Tryz.underlying68⟩
instance : TyI Tryz.prog 68 1 24 (.slice none 0 0) := TyI.of (by kernel_rfl)
instance : TyU Tryz.prog 70 (Go.TypeDesc.struct #[{ name := "err", type := 3, offset := 0, embedded := Bool.false, tag := "", pkgPath := "pub-stonevault/spec", byteOffset := 0 }, { name := "n", type := 2, offset := 1, embedded := Bool.false, tag := "", pkgPath := "pub-stonevault/spec", byteOffset := 8 }, { name := "bytes", type := 68, offset := 2, embedded := Bool.false, tag := "", pkgPath := "pub-stonevault/spec", byteOffset := 16 }]) := ⟨Tryz.underlying70⟩
instance : TyI Tryz.prog 70 3 40 (.agg #[.int .i64 0, .int .i64 0, .slice none 0 0]) := TyI.of (by kernel_rfl)
instance : TyU Tryz.prog 73 (Go.TypeDesc.slice 80) := ⟨Tryz.underlying73⟩
instance : TyI Tryz.prog 73 1 24 (.slice none 0 0) := TyI.of (by kernel_rfl)
instance : TyU Tryz.prog 77 (Go.TypeDesc.slice 4) := ⟨Tryz.underlying77⟩
instance : TyI Tryz.prog 77 1 24 (.slice none 0 0) := TyI.of (by kernel_rfl)
instance : TyU Tryz.prog 78 (Go.TypeDesc.slice 139) := ⟨Tryz.underlying78⟩
instance : TyI Tryz.prog 78 1 24 (.slice none 0 0) := TyI.of (by kernel_rfl)
instance : TyU Tryz.prog 80 (Go.TypeDesc.struct #[{ name := "kind", type := 9, offset := 0, embedded := Bool.false, tag := "", pkgPath := "pub-stonevault/spec", byteOffset := 0 }, { name := "off", type := 3, offset := 1, embedded := Bool.false, tag := "", pkgPath := "pub-stonevault/spec", byteOffset := 16 }, { name := "bytes", type := 68, offset := 2, embedded := Bool.false, tag := "", pkgPath := "pub-stonevault/spec", byteOffset := 24 }, { name := "wrote", type := 77, offset := 3, embedded := Bool.false, tag := "", pkgPath := "pub-stonevault/spec", byteOffset := 48 }, { name := "shadow", type := 3, offset := 4, embedded := Bool.false, tag := "", pkgPath := "pub-stonevault/spec", byteOffset := 72 }, { name := "levels", type := 78, offset := 5, embedded := Bool.false, tag := "", pkgPath := "pub-stonevault/spec", byteOffset := 80 }]) := ⟨Tryz.underlying80⟩
instance : TyI Tryz.prog 80 6 104 (.agg #[.string ByteArray.empty, .int .i64 0, .slice none 0 0, .slice none 0 0, .int .i64 0, .slice none 0 0]) := TyI.of (by kernel_rfl)
instance : TyU Tryz.prog 82 (Go.TypeDesc.pointer 127) := ⟨Tryz.underlying82⟩
instance : TyU Tryz.prog 91 (Go.TypeDesc.interface #[("WriteAt", 52)]) := ⟨Tryz.underlying91⟩
instance : TyU Tryz.prog 92 (Go.TypeDesc.pointer 94) := ⟨Tryz.underlying92⟩
instance : TyI Tryz.prog 92 1 8 (.pointer none) := TyI.of (by kernel_rfl)
instance : TyU Tryz.prog 107 (Go.TypeDesc.pointer 180) := ⟨Tryz.underlying107⟩
instance : TyI Tryz.prog 107 1 8 (.pointer none) := TyI.of (by kernel_rfl)
instance : TyU Tryz.prog 108 (Go.TypeDesc.func #[] #[50] Bool.false) := ⟨Tryz.underlying108⟩
instance : TyU Tryz.prog 111 (Go.TypeDesc.pointer 171) := ⟨Tryz.underlying111⟩
instance : TyI Tryz.prog 111 1 8 (.pointer none) := TyI.of (by kernel_rfl)
instance : TyU Tryz.prog 112 (Go.TypeDesc.pointer 205) := ⟨Tryz.underlying112⟩
instance : TyI Tryz.prog 112 1 8 (.pointer none) := TyI.of (by kernel_rfl)
instance : TyU Tryz.prog 113 (Go.TypeDesc.pointer 207) := ⟨Tryz.underlying113⟩
instance : TyI Tryz.prog 113 1 8 (.pointer none) := TyI.of (by kernel_rfl)
instance : TyU Tryz.prog 123 (Go.TypeDesc.int Go.IntKind.i16) := ⟨Tryz.underlying123⟩
instance : TyI Tryz.prog 123 1 2 (.int .i16 0) := TyI.of (by kernel_rfl)
instance : TyU Tryz.prog 124 (Go.TypeDesc.map 2 142) := ⟨Tryz.underlying124⟩
instance : TyU Tryz.prog 125 (Go.TypeDesc.pointer 3) := ⟨Tryz.underlying125⟩
instance : TyU Tryz.prog 139 (Go.TypeDesc.struct #[{ name := "bytes", type := 68, offset := 0, embedded := Bool.false, tag := "", pkgPath := "pub-stonevault/spec", byteOffset := 0 }, { name := "wrote", type := 77, offset := 1, embedded := Bool.false, tag := "", pkgPath := "pub-stonevault/spec", byteOffset := 24 }]) := ⟨Tryz.underlying139⟩
instance : TyI Tryz.prog 139 2 48 (.agg #[.slice none 0 0, .slice none 0 0]) := TyI.of (by kernel_rfl)
instance : TyU Tryz.prog 142 (Go.TypeDesc.pointer 144) := ⟨Tryz.underlying142⟩
instance : TyI Tryz.prog 142 1 8 (.pointer none) := TyI.of (by kernel_rfl)
instance : TyU Tryz.prog 144 (Go.TypeDesc.array 4096 5) := ⟨Tryz.underlying144⟩
instance : TyU Tryz.prog 154 (Go.TypeDesc.pointer 216) := ⟨Tryz.underlying154⟩
instance : TyU Tryz.prog 178 (Go.TypeDesc.map 2 190) := ⟨Tryz.underlying178⟩
instance : TyI Tryz.prog 178 1 8 (.map none) := TyI.of (by kernel_rfl)
instance : TyU Tryz.prog 190 (Go.TypeDesc.pointer 194) := ⟨Tryz.underlying190⟩
instance : TyI Tryz.prog 190 1 8 (.pointer none) := TyI.of (by kernel_rfl)
instance : TyU Tryz.prog 192 (Go.TypeDesc.pointer 22) := ⟨Tryz.underlying192⟩
instance : TyI Tryz.prog 192 1 8 (.pointer none) := TyI.of (by kernel_rfl)
instance : TyI Tryz.prog 216 1 16 (.agg #[.string ByteArray.empty]) := TyI.of (by kernel_rfl)
instance : EnF Tryz.prog 6 := EnF.of Tryz.func6 (by kernel_rfl) (by kernel_rfl)
instance : EnF Tryz.prog 7 := EnF.of Tryz.func7 (by kernel_rfl) (by kernel_rfl)
instance : EnF Tryz.prog 8 := EnF.of Tryz.func8 (by kernel_rfl) (by kernel_rfl)
instance : EnF Tryz.prog 9 := EnF.of Tryz.func9 (by kernel_rfl) (by kernel_rfl)
instance : EnF Tryz.prog 10 := EnF.of Tryz.func10 (by kernel_rfl) (by kernel_rfl)
instance : EnF Tryz.prog 11 := EnF.of Tryz.func11 (by kernel_rfl) (by kernel_rfl)
instance : EnF Tryz.prog 13 := EnF.of Tryz.func13 (by kernel_rfl) (by kernel_rfl)
instance : EnF Tryz.prog 14 := EnF.of Tryz.func14 (by kernel_rfl) (by kernel_rfl)
instance : EnF Tryz.prog 15 := EnF.of Tryz.func15 (by kernel_rfl) (by kernel_rfl)
instance : EnF Tryz.prog 16 := EnF.of Tryz.func16 (by kernel_rfl) (by kernel_rfl)
instance : EnF Tryz.prog 18 := EnF.of Tryz.func18 (by kernel_rfl) (by kernel_rfl)
instance : EnF Tryz.prog 19 := EnF.of Tryz.func19 (by kernel_rfl) (by kernel_rfl)
instance : EnF Tryz.prog 20 := EnF.of Tryz.func20 (by kernel_rfl) (by kernel_rfl)
instance : EnF Tryz.prog 21 := EnF.of Tryz.func21 (by kernel_rfl) (by kernel_rfl)
instance : EnF Tryz.prog 22 := EnF.of Tryz.func22 (by kernel_rfl) (by kernel_rfl)
instance : EnF Tryz.prog 23 := EnF.of Tryz.func23 (by kernel_rfl) (by kernel_rfl)
instance : EnF Tryz.prog 24 := EnF.of Tryz.func24 (by kernel_rfl) (by kernel_rfl)
instance : EnF Tryz.prog 25 := EnF.of Tryz.func25 (by kernel_rfl) (by kernel_rfl)
instance : EnF Tryz.prog 26 := EnF.of Tryz.func26 (by kernel_rfl) (by kernel_rfl)
instance : EnF Tryz.prog 27 := EnF.of Tryz.func27 (by kernel_rfl) (by kernel_rfl)
instance : EnF Tryz.prog 28 := EnF.of Tryz.func28 (by kernel_rfl) (by kernel_rfl)
instance : EnF Tryz.prog 29 := EnF.of Tryz.func29 (by kernel_rfl) (by kernel_rfl)
instance : EnF Tryz.prog 32 := EnF.of Tryz.func32 (by kernel_rfl) (by kernel_rfl)
instance : EnF Tryz.prog 33 := EnF.of Tryz.func33 (by kernel_rfl) (by kernel_rfl)
instance : EnF Tryz.prog 34 := EnF.of Tryz.func34 (by kernel_rfl) (by kernel_rfl)
instance : EnF Tryz.prog 36 := EnF.of Tryz.func36 (by kernel_rfl) (by kernel_rfl)
instance : EnF Tryz.prog 37 := EnF.of Tryz.func37 (by kernel_rfl) (by kernel_rfl)
instance : EnF Tryz.prog 38 := EnF.of Tryz.func38 (by kernel_rfl) (by kernel_rfl)
instance : EnF Tryz.prog 39 := EnF.of Tryz.func39 (by kernel_rfl) (by kernel_rfl)
instance : EnF Tryz.prog 40 := EnF.of Tryz.func40 (by kernel_rfl) (by kernel_rfl)
instance : EnF Tryz.prog 41 := EnF.of Tryz.func41 (by kernel_rfl) (by kernel_rfl)
instance : EnF Tryz.prog 42 := EnF.of Tryz.func42 (by kernel_rfl) (by kernel_rfl)
instance : EnF Tryz.prog 43 := EnF.of Tryz.func43 (by kernel_rfl) (by kernel_rfl)
instance : EnF Tryz.prog 44 := EnF.of Tryz.func44 (by kernel_rfl) (by kernel_rfl)
instance : EnF Tryz.prog 47 := EnF.of Tryz.func47 (by kernel_rfl) (by kernel_rfl)
instance : EnF Tryz.prog 48 := EnF.of Tryz.func48 (by kernel_rfl) (by kernel_rfl)
instance : EnF Tryz.prog 49 := EnF.of Tryz.func49 (by kernel_rfl) (by kernel_rfl)
instance : EnF Tryz.prog 50 := EnF.of Tryz.func50 (by kernel_rfl) (by kernel_rfl)
instance : EnF Tryz.prog 51 := EnF.of Tryz.func51 (by kernel_rfl) (by kernel_rfl)
instance : EnF Tryz.prog 52 := EnF.of Tryz.func52 (by kernel_rfl) (by kernel_rfl)
instance : EnF Tryz.prog 53 := EnF.of Tryz.func53 (by kernel_rfl) (by kernel_rfl)
instance : EnF Tryz.prog 70 := EnF.of Tryz.func70 (by kernel_rfl) (by kernel_rfl)
instance : EnF Tryz.prog 71 := EnF.of Tryz.func71 (by kernel_rfl) (by kernel_rfl)
instance : EnF Tryz.prog 72 := EnF.of Tryz.func72 (by kernel_rfl) (by kernel_rfl)
instance : EnF Tryz.prog 73 := EnF.of Tryz.func73 (by kernel_rfl) (by kernel_rfl)
instance : EnF Tryz.prog 74 := EnF.of Tryz.func74 (by kernel_rfl) (by kernel_rfl)
instance : EnF Tryz.prog 75 := EnF.of Tryz.func75 (by kernel_rfl) (by kernel_rfl)
instance : EnF Tryz.prog 76 := EnF.of Tryz.func76 (by kernel_rfl) (by kernel_rfl)
instance : EnF Tryz.prog 77 := EnF.of Tryz.func77 (by kernel_rfl) (by kernel_rfl)
instance : EnF Tryz.prog 78 := EnF.of Tryz.func78 (by kernel_rfl) (by kernel_rfl)
instance : EnF Tryz.prog 79 := EnF.of Tryz.func79 (by kernel_rfl) (by kernel_rfl)
instance : EnF Tryz.prog 80 := EnF.of Tryz.func80 (by kernel_rfl) (by kernel_rfl)
instance : EnF Tryz.prog 81 := EnF.of Tryz.func81 (by kernel_rfl) (by kernel_rfl)
instance : EnF Tryz.prog 82 := EnF.of Tryz.func82 (by kernel_rfl) (by kernel_rfl)
instance : EnF Tryz.prog 83 := EnF.of Tryz.func83 (by kernel_rfl) (by kernel_rfl)
instance : EnF Tryz.prog 84 := EnF.of Tryz.func84 (by kernel_rfl) (by kernel_rfl)
instance : EnF Tryz.prog 85 := EnF.of Tryz.func85 (by kernel_rfl) (by kernel_rfl)
instance : EnF Tryz.prog 86 := EnF.of Tryz.func86 (by kernel_rfl) (by kernel_rfl)
instance : EnF Tryz.prog 87 := EnF.of Tryz.func87 (by kernel_rfl) (by kernel_rfl)
instance : EnF Tryz.prog 88 := EnF.of Tryz.func88 (by kernel_rfl) (by kernel_rfl)
instance : EnF Tryz.prog 89 := EnF.of Tryz.func89 (by kernel_rfl) (by kernel_rfl)
instance : EnF Tryz.prog 90 := EnF.of Tryz.func90 (by kernel_rfl) (by kernel_rfl)
instance : EnF Tryz.prog 91 := EnF.of Tryz.func91 (by kernel_rfl) (by kernel_rfl)
instance : EnF Tryz.prog 92 := EnF.of Tryz.func92 (by kernel_rfl) (by kernel_rfl)
instance : EnF Tryz.prog 93 := EnF.of Tryz.func93 (by kernel_rfl) (by kernel_rfl)
instance : EnF Tryz.prog 94 := EnF.of Tryz.func94 (by kernel_rfl) (by kernel_rfl)
instance : EnF Tryz.prog 95 := EnF.of Tryz.func95 (by kernel_rfl) (by kernel_rfl)
instance : EnF Tryz.prog 96 := EnF.of Tryz.func96 (by kernel_rfl) (by kernel_rfl)
instance : EnF Tryz.prog 97 := EnF.of Tryz.func97 (by kernel_rfl) (by kernel_rfl)
instance : EnF Tryz.prog 98 := EnF.of Tryz.func98 (by kernel_rfl) (by kernel_rfl)
instance : EnF Tryz.prog 99 := EnF.of Tryz.func99 (by kernel_rfl) (by kernel_rfl)
instance : EnF Tryz.prog 100 := EnF.of Tryz.func100 (by kernel_rfl) (by kernel_rfl)
instance : EnF Tryz.prog 101 := EnF.of Tryz.func101 (by kernel_rfl) (by kernel_rfl)
instance : EnF Tryz.prog 102 := EnF.of Tryz.func102 (by kernel_rfl) (by kernel_rfl)
instance : EnF Tryz.prog 103 := EnF.of Tryz.func103 (by kernel_rfl) (by kernel_rfl)
instance : EnF Tryz.prog 104 := EnF.of Tryz.func104 (by kernel_rfl) (by kernel_rfl)
instance : EnF Tryz.prog 105 := EnF.of Tryz.func105 (by kernel_rfl) (by kernel_rfl)
instance : EnF Tryz.prog 106 := EnF.of Tryz.func106 (by kernel_rfl) (by kernel_rfl)
instance : EnF Tryz.prog 107 := EnF.of Tryz.func107 (by kernel_rfl) (by kernel_rfl)
instance : EnF Tryz.prog 108 := EnF.of Tryz.func108 (by kernel_rfl) (by kernel_rfl)
instance : EnF Tryz.prog 109 := EnF.of Tryz.func109 (by kernel_rfl) (by kernel_rfl)
instance : EnF Tryz.prog 110 := EnF.of Tryz.func110 (by kernel_rfl) (by kernel_rfl)
instance : EnF Tryz.prog 111 := EnF.of Tryz.func111 (by kernel_rfl) (by kernel_rfl)
instance : EnF Tryz.prog 112 := EnF.of Tryz.func112 (by kernel_rfl) (by kernel_rfl)
instance : EnF Tryz.prog 113 := EnF.of Tryz.func113 (by kernel_rfl) (by kernel_rfl)
instance : EnF Tryz.prog 114 := EnF.of Tryz.func114 (by kernel_rfl) (by kernel_rfl)
instance : EnF Tryz.prog 115 := EnF.of Tryz.func115 (by kernel_rfl) (by kernel_rfl)
instance : EnF Tryz.prog 116 := EnF.of Tryz.func116 (by kernel_rfl) (by kernel_rfl)
instance : EnF Tryz.prog 117 := EnF.of Tryz.func117 (by kernel_rfl) (by kernel_rfl)
instance : EnF Tryz.prog 118 := EnF.of Tryz.func118 (by kernel_rfl) (by kernel_rfl)
instance : EnF Tryz.prog 119 := EnF.of Tryz.func119 (by kernel_rfl) (by kernel_rfl)
instance : EnF Tryz.prog 120 := EnF.of Tryz.func120 (by kernel_rfl) (by kernel_rfl)
instance : EnF Tryz.prog 122 := EnF.of Tryz.func122 (by kernel_rfl) (by kernel_rfl)
instance : EnF Tryz.prog 123 := EnF.of Tryz.func123 (by kernel_rfl) (by kernel_rfl)
instance : EnF Tryz.prog 136 := EnF.of Tryz.func136 (by kernel_rfl) (by kernel_rfl)
instance : EnF Tryz.prog 137 := EnF.of Tryz.func137 (by kernel_rfl) (by kernel_rfl)
instance : EnF Tryz.prog 140 := EnF.of Tryz.func140 (by kernel_rfl) (by kernel_rfl)
instance : EnF Tryz.prog 141 := EnF.of Tryz.func141 (by kernel_rfl) (by kernel_rfl)
end Go.Proofs.YtfebpbflpdppiaaGreatDoor
namespace Go.Sl
open Go

theorem rdn_all {L R : List HP} {b : Nat} {e : TypeId} {l : List Value} (i : Nat) (hi : takeAt i L = some (blk b (cl l e), R)) : RdN L b 0 l :=
  RdN.of fun j v hv => rd_blk i hi (by simpa using hv)

/- 6. slices of the call's own: the value v is nil, or heads a row of which the first cells are l -/
def slP (v : Value) (e size : Nat) (l : List Value) : HP := fun h =>
  (v = .slice none 0 0 ∧ l = []) ∨ ∃ b cap k, v = .slice (some ⟨b, 0, none⟩) k cap ∧ l.length = k * size ∧ k ≤ cap ∧ cap ≤ maxLen ∧ row b e l (cap * size) h

theorem slP_nil {e size : Nat} {L : List HP} : Ent L (slP (.slice none 0 0) e size [] :: L) := fun H h =>
  ⟨fun _ => none, H, fun _ _ e => (by cases e), PH.sub.refl _, fun _ => Or.inl rfl, Or.inl ⟨rfl, rfl⟩, h⟩
theorem slP_blk {b k e size : Nat} {l : List Value} {L : List HP} (h1 : l.length = k * size) (h3 : k ≤ maxLen) :
    Ent (blk b (cl l e) :: L) (slP (.slice (some ⟨b, 0, none⟩) k k) e size l :: L) := Ent.imp fun _ h => Or.inr ⟨b, k, k, rfl, h1, Nat.le_refl _, h3, l.toArray, h, by simp [h1], by simp⟩

/-- what an owned slice is -/
theorem slP_cases {v : Value} {e size : Nat} {l : List Value} {L : List HP} {H : PH} (h : SatL (slP v e size l :: L) H) :
    (v = .slice none 0 0 ∧ l = []) ∨ ∃ b cap k, v = .slice (some ⟨b, 0, none⟩) k cap ∧ l.length = k * size ∧ k ≤ cap ∧ cap ≤ maxLen ∧ SatL (row b e l (cap * size) :: L) H := by
  obtain ⟨a, g, h1, h2, h3, hA, h5⟩ := h
  rcases hA with hA | ⟨b, cap, k, e1, e2, e3, e4, hr⟩
  · exact Or.inl hA
  · exact Or.inr ⟨b, cap, k, e1, e2, e3, e4, a, g, h1, h2, h3, hr, h5⟩

theorem slP_owns {m : Amb} {L : List HP} {w : World} {v : Value} {e size k : Nat} {l : List Value} (h : Sat m (slP v e size l :: L) w) (hl : l.length = k * size) (hsz : 0 < size) : w.ownsRow 0 e size v k l := by
  refine ⟨hl, ?_⟩
  rcases slP_cases h.2.2.2 with ⟨rfl, rfl⟩ | ⟨b, cap, k', rfl, h1, h2, h3, hr⟩
  · left
    refine ⟨rfl, ?_⟩
    rcases Nat.eq_zero_or_pos k with h0 | h0
    · exact h0
    · have := Nat.mul_pos h0 hsz
      simp only [List.length_nil] at hl
      omega
  · right
    have hk : k = k' := Nat.eq_of_mul_eq_mul_right hsz (by rw [← hl, ← h1])
    subst hk
    obtain ⟨a, g, g1, _, _, ⟨c, hc, hn, ht⟩, _⟩ := hr
    exact ⟨b, cap, c, rfl, Nat.zero_le _, g1 _ _ hc, h2, h3, hn, by rw [← h1]; exact ht⟩

/-- behind an operation that has written one own row alone, or made a new one -/
theorem Sat.grown {m : Amb} {R : List HP} {w w' : World} {v v' : Value} {e size k' : Nat} {l l' : List Value} (h : Sat m (slP v e size l :: R) w) (hg : w.grownBy w' v.ownBlock)
    (ho : w'.ownsRow 0 e size v' k' l') (hb : ∀ b, v'.ownBlock = some b → v.ownBlock = some b ∨ w.heap.size ≤ b) : Sat m (slP v' e size l' :: R) w' := by
  refine ⟨hg.os.trans h.1, hg.tape.trans h.2.1, hg.output.trans h.2.2.1, ?_⟩
  obtain ⟨a, g, h1, h2, h3, hA, hR⟩ := h.2.2.2
  have hav : ∀ b, v.ownBlock = some b → ∃ o, a b = some o := by
    intro b hvb
    rcases hA with ⟨rfl, _⟩ | ⟨b', cap, k, rfl, _, _, _, c, hc, _⟩
    · simp [Value.ownBlock] at hvb
    · simp [Value.ownBlock] at hvb; subst hvb; exact ⟨_, hc⟩
  have hgv : ∀ b, v.ownBlock = some b → g b = none := fun b hvb => by
    obtain ⟨o, ho⟩ := hav b hvb
    rcases h3 b with e | e
    · rw [ho] at e; cases e
    · exact e
  have hgs : g.sub (ph w') := fun k o hk => by
    have hw : w.heap[k]? = some o := h2 k o hk
    have hlt : k < w.heap.size := (Array.getElem?_eq_some_iff.1 hw).1
    show w'.heap[k]? = some o
    rw [hg.block k hlt (fun e => by rw [hgv k e.symm] at hk; cases hk)]
    exact hw
  rcases ho.2 with ⟨rfl, hn⟩ | ⟨b, cap, cur, rfl, _, hcur, hnc, hcm, hcs, htake⟩
  · have hl' : l' = [] := List.eq_nil_of_length_eq_zero (by rw [ho.1, hn]; simp)
    subst hl'
    exact slP_nil _ (hR.sub hgs)
  · refine ⟨fun k => if k = b then w'.heap[b]? else none, g, ?_, hgs, ?_, ?_, hR⟩
    · intro k o hk
      dsimp only at hk
      split at hk
      · rename_i e; subst e; exact hk
      · cases hk
    · intro k
      by_cases hk : k = b
      · right
        subst hk
        rcases hb k rfl with e | e
        · exact hgv k e
        · cases hgk : g k with
          | none => rfl
          | some o =>
            have hw : w.heap[k]? = some o := h2 k o hgk
            have := (Array.getElem?_eq_some_iff.1 hw).1
            omega
      · left; dsimp only; rw [if_neg hk]
    · right
      refine ⟨b, cap, k', rfl, ho.1, hnc, hcm, cur, ?_, hcs, ?_⟩
      · dsimp only; rw [if_pos rfl]; exact hcur
      · rw [ho.1]; exact htake

/-- the source of an append, as it is read: k elements, the cells news -/
inductive Src (L : List HP) (size : Nat) : Value → Nat → List Value → Prop
  | nil : Src L size (.slice none 0 0) 0 []
  | some (b o k c : Nat) (news : List Value) (hl : news.length = k * size) (hr : RdN L b o news) : Src L size (.slice (some ⟨b, o, none⟩) k c) k news
  | emp (a : Addr) (c : Nat) : Src L size (.slice (some a) 0 c) 0 []

section
variable {P : Program} {n : Nat} {ds : List Deferred} {σ : Env} {m : Amb} {L R : List HP} {Q : Exit → Act → World → Prop} {K : Act → World → Prop}
variable {d : Nat} {ty : TypeId} {pos : String} {aft : Array Edge} {gd : Option (Nat × Bool)} {x y : Operand} {t u e : TypeId}

theorem run_append_emp {v : Value} {e size : Nat} {xs : List Value} {w : World} {k t ty c : Nat} {a : Addr} (hu : P.underlying t = Option.some (.slice e)) (hs : (P.info? e).isSome = true) (hown : w.ownsRow 0 e size v k xs) :
    (Builtin.append_ #[t, t] ty #[v, .slice (Option.some a) 0 c]).run P w = .ok v w := by
  have hlc : (loadCells a 0).run P w = .ok #[] w := run_loadCells_list (P := P) w a [] (fun j v hv => by simp at hv)
  cases hi : P.info? e with
  | none => simp [hi] at hs
  | some i =>
    rcases hown.2 with ⟨rfl, rfl⟩ | ⟨g, cap, cur, rfl, _, _, hnc, _, _, _⟩
    · simp [Builtin.append_, run_underlying hu, sizeOf, typeInfo, hi, Builtin.lenOf, Builtin.firstCells, hlc]
    · simp [Builtin.append_, run_underlying hu, sizeOf, typeInfo, hi, Builtin.lenOf, Builtin.firstCells, hlc, hnc, storeCells]
theorem run_append_empty {v : Value} {e size : Nat} {xs : List Value} {w : World} {k t ty : Nat} (hu : P.underlying t = Option.some (.slice e)) (hs : (P.info? e).isSome = true) (hown : w.ownsRow 0 e size v k xs) :
    (Builtin.append_ #[t, t] ty #[v, .slice none 0 0]).run P w = .ok v w := by
  cases hi : P.info? e with
  | none => simp [hi] at hs
  | some i =>
    rcases hown.2 with ⟨rfl, rfl⟩ | ⟨g, cap, cur, rfl, _, _, hnc, _, _, _⟩
    · simp [Builtin.append_, run_underlying hu, sizeOf, typeInfo, hi, Builtin.lenOf, Builtin.firstCells]
    · simp [Builtin.append_, run_underlying hu, sizeOf, typeInfo, hi, Builtin.lenOf, Builtin.firstCells, hnc, storeCells]

theorem s_append {i size bytes k kk c0 : Nat} {z sv : Value} {a0 : Option Addr} {l news : List Value} [h1 : TyU P t (.slice e)] [h2 : TyI P e size bytes z] (hx : opd σ x = Option.some (.slice a0 k c0)) (hy : opd σ y = Option.some sv)
    (hi : takeAt i L = Option.some (slP (.slice a0 k c0) e size l, R)) (hs : Src L size sv kk news) (hz : z.cells.size = size) (hsz : Nat.blt 0 size = true) (hl : l.length = k * size)
    (hc : news.all (·.oneCell') = true) (hb : (k + kk) * bytes ≤ 140737488355328) (hm : k + kk ≤ maxLen) (hk : Nat.blt d n = true)
    (h : ∀ a c, G n ds ((d, .slice a (k + kk) c) :: σ) m (slP (.slice a (k + kk) c) e size (l ++ news) :: R) K) :
    G n ds σ m L (St P ⟨Option.some d, .call ⟨.builtin .append, #[x, y], #[t, t]⟩, ty, pos, aft, gd⟩ K Q) := by
  have hsz := ltOf hsz
  have hc : ∀ u ∈ news, u.oneCell' = true := fun u hu => List.all_eq_true.1 hc u hu
  obtain ⟨info, hinfo, hi1, hi2, hi3⟩ := h2.h
  refine s_eff rfl hk fun a w g hw => ?_
  have hw' := hw.ent (takeAt_ent hi)
  have hown := slP_owns hw' hl hsz
  cases hs with
  | nil =>
    refine ⟨.slice a0 k c0, w, ?_, _, by simpa using hw', h a0 c0⟩
    simp [execOp, resolve, opd_eval g hx, opd_eval g hy, invoke, builtin, run_append_empty (ty := ty) h1.h (by simp [hinfo]) hown]
  | emp ad c =>
    refine ⟨.slice a0 k c0, w, ?_, _, by simpa using hw', h a0 c0⟩
    simp [execOp, resolve, opd_eval g hx, opd_eval g hy, invoke, builtin, run_append_emp (ty := ty) h1.h (by simp [hinfo]) hown]
  | some b o _ c _ hkk hr =>
    obtain ⟨v', w', hrun, ho', hg', hv'⟩ := run_append_own (P := P) w 0 t ty e info z size bytes h1.h hinfo hi3 hi1 hi2 hz hsz _ k l hown ⟨b, o, none⟩ kk c news hkk
      (fun j u' hu' => by rw [addr_add]; exact hr.get hu' m w hw) hc hm hb (Nat.zero_le _)
    have hsame : ∀ b', v'.ownBlock = Option.some b' → (Value.slice a0 k c0).ownBlock = Option.some b' ∨ w.heap.size ≤ b' := by
      intro b' hb'
      rcases ho'.2 with ⟨rfl, _⟩ | ⟨b2, cap2, cur2, rfl, _, hcur2, _⟩
      · simp [Value.ownBlock] at hb'
      · simp [Value.ownBlock] at hb'
        subst hb'
        rcases hown.2 with ⟨hv0, hk0⟩ | ⟨b1, cap1, cur1, hv0, _, hcur1, hnc1, hcm1, hcs1, _⟩
        · right
          subst hk0
          rw [hv0] at hrun hv'
          have hkk0 : kk ≠ 0 := fun e0 => by have := hv'.2 ⟨rfl, e0⟩; cases this
          have he := run_append_nil (P := P) w t ty e info z h1.h hinfo hi3 ⟨b, o, none⟩ kk c news (by rw [hkk, hi1]) (fun j u' hu' => by rw [addr_add]; exact hr.get hu' m w hw) (by omega)
            (by simp only [maxLen] at hm; omega) (by rw [hi2]; simp only [Nat.zero_add] at hb; omega)
          rw [he] at hrun
          have := (Result.ok.inj hrun).1
          simp at this
          omega
        · rw [hv0] at hrun
          by_cases hroom : k + kk ≤ cap1
          · left
            have he := run_append_room (P := P) w t ty e info h1.h hinfo b1 k cap1 cur1 hcur1 ⟨b, o, none⟩ kk c news (by rw [hkk, hi1]) (fun j u' hu' => by rw [addr_add]; exact hr.get hu' m w hw) hc hroom
              (by rw [hi1, hcs1, hkk, ← Nat.add_mul]; exact Nat.mul_le_mul_right _ hroom)
            rw [he] at hrun
            have := (Result.ok.inj hrun).1
            simp at this
            rw [hv0]
            simp [Value.ownBlock, this.1]
          · right
            have he := run_append_grow (P := P) w t ty e info z h1.h hinfo hi3 ⟨b1, 0, none⟩ k cap1 l (by rw [hl, hi1]) (hown.cells (g := b1) (by rw [hv0]; rfl)) ⟨b, o, none⟩ kk c news (by rw [hkk, hi1]) (fun j u' hu' => by rw [addr_add]; exact hr.get hu' m w hw) (by omega)
              (by simp only [maxLen] at hm; omega)
              (growslice_fits (by omega) (by rw [hi2]; exact hb))
            rw [he] at hrun
            have := (Result.ok.inj hrun).1
            simp at this
            omega
    have hgr := hw'.grown hg' ho' hsame
    have hex : ∃ a' c', v' = .slice a' (k + kk) c' := by
      rcases ho'.2 with ⟨rfl, h0⟩ | ⟨b2, cap2, cur2, rfl, _⟩
      · exact ⟨none, 0, by rw [h0]⟩
      · exact ⟨_, _, rfl⟩
    obtain ⟨a', c', rfl⟩ := hex
    refine ⟨_, w', ?_, _, hgr, h a' c'⟩
    simp [execOp, resolve, opd_eval g hx, opd_eval g hy, invoke, builtin, hrun]
end

section
variable {P : Program} {n : Nat} {ds : List Deferred} {σ : Env} {m : Amb} {L R : List HP} {Q : Exit → Act → World → Prop} {K : Act → World → Prop}
variable {d : Nat} {ty : TypeId} {pos : String} {aft : Array Edge} {gd : Option (Nat × Bool)} {x y : Operand} {t u e : TypeId}

theorem fill_all (size : Nat) : ∀ (vs : List Value) (i : Nat) (pre post : List Value), pre.length = i * size → (∀ v ∈ vs, v.cells.size = size) → post.length = vs.length * size →
    Instr.fill (fun i => some (i * size, size)) (pre ++ post).toArray ((vs.zipIdx i).map fun p => (p.2, p.1)) = some (pre ++ vs.flatMap fun v => v.cells.toList).toArray := by
  intro vs
  induction vs with
  | nil => intro i pre post hp _ hq; simp at hq; subst hq; simp [Instr.fill]
  | cons v vs ih =>
    intro i pre post hp hs hq
    have hv := hs v (by simp)
    simp only [List.zipIdx_cons, List.map_cons, Instr.fill]
    have hlen : (pre ++ post).length = i * size + (vs.length + 1) * size := by simp [hp, hq]
    have hge : size ≤ (vs.length + 1) * size := Nat.le_mul_of_pos_left _ (by omega)
    have h0 : ¬ (v.cells.size ≠ size || decide (i * size + v.cells.size > (pre ++ post).toArray.size)) = true := by
      simp [hv, hp, hq]; omega
    rw [if_neg h0]
    have hset : ∀ (cs : List Value) (acc : List Value) (j : Nat), acc.length = i * size + j → ∀ (rest : List Value), cs.length ≤ rest.length →
        (cs.zipIdx j).foldl (fun (c : Array Value) (p : Value × Nat) => c.setIfInBounds (i * size + p.2) p.1) (acc ++ rest).toArray = (acc ++ cs ++ rest.drop cs.length).toArray := by
      intro cs
      induction cs with
      | nil => intro acc j _ rest _; simp
      | cons c cs ih2 =>
        intro acc j ha rest hr
        cases rest with
        | nil => simp at hr
        | cons r rest =>
          simp only [List.zipIdx_cons, List.foldl_cons, List.setIfInBounds_toArray]
          rw [show i * size + j = acc.length from ha.symm]
          rw [show (acc ++ r :: rest).set acc.length c = acc ++ c :: rest from by simp]
          have := ih2 (acc ++ [c]) (j + 1) (by simp [ha]; omega) rest (by simpa using hr)
          simp only [List.append_assoc, List.singleton_append] at this
          rw [this]
          simp
    have hfold : (v.cells.zipIdx.foldl (fun cs (p : Value × Nat) => cs.setIfInBounds (i * size + p.2) p.1) (pre ++ post).toArray) = (pre ++ v.cells.toList ++ post.drop size).toArray := by
      have := hset v.cells.toList pre 0 (by simp [hp]) post (by simp [hv, hq]; omega)
      rw [show v.cells.toList.length = size from by simpa using hv] at this
      rw [← this, ← Array.foldl_toList]
      simp
    have hgoal := ih (i + 1) (pre ++ v.cells.toList) (post.drop size) (by simp [hp, hv, Nat.add_mul]) (fun u hu => hs u (by simp [hu])) (by simp [hq, Nat.add_mul])
    rw [show (v.cells.zipIdx.foldl (fun cs x => match x with | (c, j) => cs.setIfInBounds (i * size + j) c) (pre ++ post).toArray) = (pre ++ v.cells.toList ++ post.drop size).toArray from hfold]
    rw [hgoal]
    simp

theorem run_buildSlice' {e size bytes : Nat} {z : Value} (h1 : TyU P t (.slice e)) (h2 : TyI P e size bytes z) (_hz : z.cells.size = size) (hsz : 0 < size) (vs : List Value) (hv : ∀ v ∈ vs, v.cells.size = size) (hsmall : vs.length * size ≤ 16777216) (w : World) :
    (Instr.buildSlice t vs.length ((vs.zipIdx 0).map fun p => (p.2, p.1)).toArray).run P w = .ok (.slice (some ⟨w.heap.size, 0, none⟩) vs.length vs.length) { w with heap := w.heap.push (cl (vs.flatMap fun v => v.cells.toList) e) } := by
  have hf := fill_all size vs 0 [] (((List.range (vs.length * size)).map fun i => z.cells[i % z.cells.size]!)) (by simp) hv (by simp)
  simp only [List.nil_append] at hf
  have hsm : ¬ (vs.length * size > 2 ^ 24) := by
    have : (2 : Nat) ^ 24 = 16777216 := by decide
    omega
  simp only [Instr.buildSlice, Sem.run_bind, run_und h1, Result.andThen_ok, run_sizeOf h2, if_neg hsm]
  have harr : ((Array.range (vs.length * size)).map fun x => z.cells[x % z.cells.size]!) = ((List.range (vs.length * size)).map fun i => z.cells[i % z.cells.size]!).toArray := by
    apply Array.ext'; simp
  by_cases h0 : vs.length * size = 0
  · have hvs : vs = [] := by
      rcases Nat.mul_eq_zero.1 h0 with h | h
      · exact List.eq_nil_of_length_eq_zero h
      · omega
    subst hvs
    simp [Instr.fill, newRow, cl]
    rw [show Array.range 0 = (#[] : Array Nat) from Array.ext' (by simp)]
    simp
  · simp only [if_neg h0, Sem.run_bind, run_zeroValue h2, Result.andThen_ok, Sem.run_pure, harr, hf]
    simp [newRow, cl]

/-- a slice's literal: the values, one behind the other -/
theorem s_build {size bytes len : Nat} {zv : Value} {parts : List (Nat × Operand)} {vs : List Value} {l : List Value} [h1 : TyU P t (.slice e)] [h2 : TyI P e size bytes zv] (hx : opds σ (parts.map (·.2)) = some vs)
    (hp : parts.map (·.1) = List.range parts.length) (hlen : parts.length = len) (hz : zv.cells.size = size) (hsz : Nat.blt 0 size = true) (hv : ∀ v ∈ vs, v.cells.size = size) (hl : (vs.flatMap fun v => v.cells.toList) = l)
    (hsm : Nat.ble (len * size) 16777216 = true) (hk : Nat.blt d n = true)
    (h : ∀ b, G n ds ((d, .slice (some ⟨b, 0, none⟩) len len) :: σ) m (blk b (cl l e) :: L) K) : G n ds σ m L (St P ⟨some d, .buildSlice t len parts.toArray, ty, pos, aft, gd⟩ K Q) := by
  subst hlen
  refine s_eff rfl hk fun a w g hw => ?_
  have hev := opds_eval g hx
  have hvl : vs.length = parts.length := by rw [← hev]; simp
  have hparts : parts.map (fun p => (p.1, a.eval p.2)) = (vs.zipIdx 0).map fun p => (p.2, p.1) := by
    apply List.ext_getElem
    · simp [hvl]
    · intro i hi1 hi2
      have e1 : (parts.map (·.1))[i]? = some i := by rw [hp, List.getElem?_range (by simpa using hi1)]
      have e2 : vs[i]? = ((parts.map (·.2)).map a.eval)[i]? := by rw [hev]
      have hip : i < parts.length := by simpa using hi1
      simp [hip] at e1
      simp [hip, hvl] at e2
      simp [e1, e2]
  have hb := run_buildSlice' h1 h2 hz (ltOf hsz) vs hv (by rw [hvl]; exact Nat.le_of_ble_eq_true hsm) w
  rw [hvl, hl] at hb
  refine ⟨_, _, ?_, _, hw.new (cl l e), h w.heap.size⟩
  simp only [execOp, List.map_toArray]
  have hparts' : List.map (fun x => match x with | (i, x) => (i, a.eval x)) parts = (vs.zipIdx 0).map fun p => (p.2, p.1) := hparts
  rw [hparts']
  simp only [Sem.run_bind, hb, Result.andThen_ok, Sem.run_pure]

def isOne : Value → Bool
  | .agg _ => false
  | _ => true
theorem cells_one {v : Value} (h : isOne v = true) : v.cells = #[v] := by cases v <;> first | rfl | cases h
theorem flat_one : ∀ {vs : List Value}, (∀ v ∈ vs, v.cells = #[v]) → (vs.flatMap fun v => v.cells.toList) = vs
  | [], _ => rfl
  | v :: vs, h => by
    simp only [List.flatMap_cons, h v (by simp)]
    rw [flat_one (vs := vs) (fun u hu => h u (by simp [hu]))]
    rfl
/-- the same where each element is one cell -/
theorem s_build1 {bytes len : Nat} {zv : Value} {parts : List (Nat × Operand)} {vs : List Value} [h1 : TyU P t (.slice e)] [h2 : TyI P e 1 bytes zv] (hx : opds σ (parts.map (·.2)) = some vs)
    (hp : parts.map (·.1) = List.range parts.length) (hlen : parts.length = len) (hz : zv.cells.size = 1) (hv : vs.all isOne = true)
    (hsm : Nat.ble len 16777216 = true) (hk : Nat.blt d n = true)
    (h : ∀ b, G n ds ((d, .slice (some ⟨b, 0, none⟩) len len) :: σ) m (blk b (cl vs e) :: L) K) : G n ds σ m L (St P ⟨some d, .buildSlice t len parts.toArray, ty, pos, aft, gd⟩ K Q) := by
  have hv' : ∀ v ∈ vs, v.cells = #[v] := fun v hm => cells_one (List.all_eq_true.1 hv v hm)
  refine s_build hx hp hlen hz rfl (fun v hm => by rw [hv' v hm]; rfl) (l := vs) ?_ (by rw [Nat.mul_one]; exact hsm) hk h
  exact flat_one hv'
/-- s[lo:hi] of a slice -/
theorem run_bound {v : Value} {k : IntKind} {i : Int} {y : Nat} {c : BoundsCode} (w : World) (hv : v = .int k i) (h : 0 ≤ i ∧ i ≤ y) : (Instr.sliceBound v y c).run P w = .ok i.toNat w := by
  subst hv
  simp [Instr.sliceBound, asIntOf, h.1, h.2]
theorem r_slLo {od : Option Tmp} {size bytes len cap : Nat} {z : Value} {a : Option Addr} {k : IntKind} {lo : Int} [h1 : TyU P t (.slice e)] [h2 : TyI P e size bytes z] (hx : opd σ x = some (.slice a len cap)) (hy : opd σ y = some (.int k lo)) (hlo : 0 ≤ lo ∧ lo ≤ len) :
    RunS P ⟨od, .slice t x (some y) none none, ty, pos, aft, gd⟩ σ (.slice (if cap = lo.toNat then a else a.map (·.add (lo.toNat * size))) (len - lo.toNat) (cap - lo.toNat)) := fun c w g => by
  simp only [execOp, Option.map_some, Option.map_none, opd_eval g hx, opd_eval g hy]
  simp [Instr.sliceAt, run_und h1, Instr.slice, Instr.sliceBounds, run_bound (P := P) w rfl hlo, run_sizeOf h2]
theorem r_slHi {od : Option Tmp} {size bytes len cap : Nat} {z : Value} {a : Option Addr} {k : IntKind} {hi : Int} [h1 : TyU P t (.slice e)] [h2 : TyI P e size bytes z] (hx : opd σ x = some (.slice a len cap)) (hy : opd σ y = some (.int k hi)) (hhi : 0 ≤ hi ∧ hi ≤ cap) :
    RunS P ⟨od, .slice t x none (some y) none, ty, pos, aft, gd⟩ σ (.slice a hi.toNat cap) := fun c w g => by
  simp only [execOp, Option.map_some, Option.map_none, opd_eval g hx, opd_eval g hy]
  simp [Instr.sliceAt, run_und h1, Instr.slice, Instr.sliceBounds, run_bound (P := P) w rfl hhi, run_sizeOf h2]
  cases a with
  | none => intro; rfl
  | some a => intro; rfl
theorem r_slLH {od : Option Tmp} {size bytes len cap : Nat} {z : Value} {a : Option Addr} {k j : IntKind} {lo hi : Int} {x' : Operand} [h1 : TyU P t (.slice e)] [h2 : TyI P e size bytes z] (hx : opd σ x = some (.slice a len cap)) (hy : opd σ y = some (.int k lo)) (hy' : opd σ x' = some (.int j hi))
    (hlo : 0 ≤ lo ∧ lo ≤ hi) (hhi : hi ≤ cap) :
    RunS P ⟨od, .slice t x (some y) (some x') none, ty, pos, aft, gd⟩ σ (.slice (if cap = lo.toNat then a else a.map (·.add (lo.toNat * size))) (hi.toNat - lo.toNat) (cap - lo.toNat)) := fun c w g => by
  simp only [execOp, Option.map_some, Option.map_none, opd_eval g hx, opd_eval g hy, opd_eval g hy']
  simp [Instr.sliceAt, run_und h1, Instr.slice, Instr.sliceBounds, run_bound (P := P) w rfl (show 0 ≤ hi ∧ hi ≤ (cap : Int) by omega), run_bound (P := P) w rfl (show 0 ≤ lo ∧ lo ≤ (hi.toNat : Int) by omega), run_sizeOf h2]

/-- x.(T), T no interface -/
theorem r_asOk {od : Option Tmp} {xt : TypeId} {v : Value} {p : TypeDesc} [h1 : TyU P t p] (hx : opd σ x = some (.iface t v)) (hp : (match p with | .interface _ => true | _ => false) = false) :
    RunS P ⟨od, .typeAssert x xt t true, ty, pos, aft, gd⟩ σ (.tuple #[v, .bool true]) := fun c w g => by
  simp only [execOp, opd_eval g hx, Instr.typeAssert, Sem.run_bind, run_und h1, Result.andThen_ok]
  cases p <;> simp_all
theorem r_asNo {od : Option Tmp} {xt u size bytes : Nat} {v z : Value} {p : TypeDesc} [h1 : TyU P t p] [h2 : TyI P t size bytes z] (hx : opd σ x = some (.iface u v)) (hp : (match p with | .interface _ => true | _ => false) = false) (hne : Nat.beq u t = false) :
    RunS P ⟨od, .typeAssert x xt t true, ty, pos, aft, gd⟩ σ (.tuple #[z, .bool false]) := fun c w g => by
  have hne : u ≠ t := fun e => by subst e; rw [Nat.beq_refl] at hne; cases hne
  simp only [execOp, opd_eval g hx, Instr.typeAssert, Sem.run_bind, run_und h1, Result.andThen_ok]
  cases p <;> simp_all [run_zeroValue h2]
theorem r_asNil {od : Option Tmp} {xt size bytes : Nat} {z : Value} {p : TypeDesc} [h1 : TyU P t p] [h2 : TyI P t size bytes z] (hx : opd σ x = some .nilIface) (hp : (match p with | .interface _ => true | _ => false) = false) :
    RunS P ⟨od, .typeAssert x xt t true, ty, pos, aft, gd⟩ σ (.tuple #[z, .bool false]) := fun c w g => by
  simp only [execOp, opd_eval g hx, Instr.typeAssert, Sem.run_bind, run_und h1, Result.andThen_ok]
  cases p <;> simp_all [run_zeroValue h2]
theorem r_asIs {od : Option Tmp} {xt : TypeId} {v : Value} {p : TypeDesc} [h1 : TyU P t p] (hx : opd σ x = some (.iface t v)) (hp : (match p with | .interface _ => true | _ => false) = false) :
    RunS P ⟨od, .typeAssert x xt t false, ty, pos, aft, gd⟩ σ v := fun c w g => by
  simp only [execOp, opd_eval g hx, Instr.typeAssert, Sem.run_bind, run_und h1, Result.andThen_ok]
  cases p <;> simp_all

/- regions in any order, where all only reads -/
class Mixed (P : Program) : Prop where
  h : P.follows .mixedOrders = true
def GQ (n : Nat) (ds : List Deferred) (σ : Env) (Ψ : Act → Prop) : Prop := ∀ a : Act, a.defers = ds → a.tmps.size = n → Agr σ a.tmps → Ψ a
def QL (P : Program) (ops : Array Oper) (m : Amb) (L : List HP) (Q : Exit → Act → World → Prop) (l : List Oper) : Act → Prop := wpQuiet P ops (Sat m L) (fun a' => ∀ w', Sat m L w' → Q .normal a' w') l
theorem c_quiet {id : Nat} {l : List Oper} [hm : Mixed P] (hB : Region.lexB .any l.toArray = true) (h : GQ n ds σ (QL P l.toArray m L Q l)) : G n ds σ m L ((Code.region id l.toArray true).wp P Q) :=
  fun a w h1 h2 h3 h4 => wp_region_quiet (C := Sat m L) hm.h hB (h4.drawn _) (by have := h a h1 h2 h3; unfold QL at this; simpa using this)
section
variable {ops : Array Oper} {rest : List Oper} {o : Oper}
theorem qt_nil (h : G n ds σ m L (Q .normal)) : GQ n ds σ (QL P ops m L Q []) := fun a h1 h2 h3 w' hw' => h a w' h1 h2 h3 hw'
theorem qt_put {v : Value} (hd : o.dst = some d) (hk : Nat.blt d n = true) (hr : ∀ (a : Act) (w : World), Agr σ a.tmps → Sat m L w → o.quietAt P a (Sat m L) w v) (hw : ∀ a : Act, Agr σ a.tmps → Region.wanted o (yielded ops a.tmps) = true)
    (h : GQ n ds ((d, v) :: σ) (QL P ops m L Q rest)) : GQ n ds σ (QL P ops m L Q (o :: rest)) := fun a h1 h2 h3 => by
  have hk : d < a.tmps.size := by rw [h2]; exact ltOf hk
  unfold QL wpQuiet
  rw [if_pos (hw a h3)]
  refine ⟨v, fun w hw => hr a w h3 hw, ?_⟩
  rw [hd]
  exact h _ h1 (by simp [Act.put, h2]) (h3.put hk v)
theorem quiet_of_run {v : Value} (hr : RunV P o σ m L v) (a : Act) (w : World) (g : Agr σ a.tmps) (hw : Sat m L w) : o.quietAt P a (Sat m L) w v := by
  unfold Oper.quietAt
  rw [hr a w g hw]
  exact ⟨rfl, rfl⟩
theorem qt_val {v : Value} (hg : o.guard = none) (hd : o.dst = some d) (hk : Nat.blt d n = true) (hr : RunV P o σ m L v) (h : GQ n ds ((d, v) :: σ) (QL P ops m L Q rest)) : GQ n ds σ (QL P ops m L Q (o :: rest)) :=
  qt_put hd hk (quiet_of_run hr) (fun a _ => by simp [Region.wanted, hg]) h
theorem qt_valY {v : Value} {j dj : Nat} {want : Bool} (hg : o.guard = some (j, want)) (hj : (ops[j]?).bind (·.dst) = some dj) (hb : lk σ dj = some (.bool want)) (hd : o.dst = some d) (hk : Nat.blt d n = true) (hr : RunV P o σ m L v)
    (h : GQ n ds ((d, v) :: σ) (QL P ops m L Q rest)) : GQ n ds σ (QL P ops m L Q (o :: rest)) :=
  qt_put hd hk (quiet_of_run hr) (fun a g => by rw [wanted_of hg hj hb g]; cases want <;> rfl) h
theorem qt_skip {k : Nat} (hd : o.dst = some k) (hk : Nat.blt k n = true) (hw : ∀ a : Act, Agr σ a.tmps → Region.wanted o (yielded ops a.tmps) = false)
    (h : GQ n ds ((k, undef) :: σ) (QL P ops m L Q rest)) : GQ n ds σ (QL P ops m L Q (o :: rest)) := fun a h1 h2 h3 => by
  have hk : k < a.tmps.size := by rw [h2]; exact ltOf hk
  unfold QL wpQuiet
  rw [if_neg (by rw [hw a h3]; simp)]
  rw [hd]
  exact h _ h1 (by simp [Act.put, h2]) (h3.put hk undef)
theorem qt_no {j dj k : Nat} {want b : Bool} (hg : o.guard = some (j, want)) (hd : o.dst = some k) (hk : Nat.blt k n = true) (hj : (ops[j]?).bind (·.dst) = some dj) (hb : lk σ dj = some (.bool b)) (hne : (b == want) = false)
    (h : GQ n ds ((k, undef) :: σ) (QL P ops m L Q rest)) : GQ n ds σ (QL P ops m L Q (o :: rest)) :=
  qt_skip hd hk (fun a g => by rw [wanted_of hg hj hb g, hne]) h
theorem qt_noU {j dj k : Nat} {want : Bool} (hg : o.guard = some (j, want)) (hd : o.dst = some k) (hk : Nat.blt k n = true) (hj : (ops[j]?).bind (·.dst) = some dj) (hb : lk σ dj = some undef)
    (h : GQ n ds ((k, undef) :: σ) (QL P ops m L Q rest)) : GQ n ds σ (QL P ops m L Q (o :: rest)) :=
  qt_skip hd hk (fun _a g => unwanted_of hg hj hb g) h
theorem qt_callAux {f : FuncId} {args : Array Value} {A F : List HP} {is : List Nat} {v : Value} (hen : ∀ (a : Act) (w : World), Agr σ a.tmps → (execOp a.eval o).run P w = .ok (.enter f args) w) (hc : Ct P f args A (fun v' B => v' = v ∧ B = A) nev)
    (hp : pick is L = some (A, F)) (hq : Ent (A ++ F) L) (a : Act) (w : World) (g : Agr σ a.tmps) (hw : Sat m L w) : o.quietAt P a (Sat m L) w v := by
  unfold Oper.quietAt
  rw [hen a w g]
  refine ⟨rfl, (hc m F w (hw.ent (pick_ent hp))).mono fun e w' he => ?_⟩
  cases e with
  | returned u =>
    obtain ⟨B, ⟨rfl, rfl⟩, hB⟩ := he
    exact ⟨rfl, hB.ent hq⟩
  | panicked c => obtain ⟨B, hR, _⟩ := he; exact hR.elim
  | outgrown => exact he.elim
theorem qt_call {f : FuncId} {xs : List Operand} {T : Array TypeId} {vs : List Value} {A F : List HP} {v : Value} [he : EnF P f] (hx : opds σ xs = some vs) (hk : Nat.blt d n = true)
    (hc : Ct P f vs.toArray A (fun v' B => v' = v ∧ B = A) nev) (is : List Nat) (hp : pick is L = some (A, F)) (hq : Ent (A ++ F) L) (h : GQ n ds ((d, v) :: σ) (QL P ops m L Q rest)) :
    GQ n ds σ (QL P ops m L Q (⟨some d, .call ⟨.value (.func f), xs.toArray, T⟩, ty, pos, aft, none⟩ :: rest)) :=
  qt_put rfl hk (qt_callAux (fun a w g => by
    simp only [execOp, resolve, Act.eval, Deferred.ofValue, List.map_toArray, opds_eval g hx]
    simp [invoke, he.h]) hc hp hq) (fun a _ => by simp [Region.wanted]) h
end

/- regions in any order: whichever may come up -/
section
variable {ops : Array Oper} {fuel : Nat} {listed : Array Bool}
theorem a_op {o : Oper} {K : Act → World → Prop} {i : Nat} (hi : ops[i]? = some o) (hg : o.guard = none) (h : G n ds σ m L (St P o K Q)) : G n ds σ m L (wpOp P ops Q i K) := fun a w h1 h2 h3 h4 => by
  unfold wpOp
  simp only [hi]
  rw [if_pos (by simp [Region.wanted, hg])]
  exact .inl (h a w h1 h2 h3 h4)
end
end

/- a struct or an array is stored -/
def spl : List Value → Nat → List Value → List Value
  | l, _, [] => l
  | l, o, v :: vs => spl (l.set o v) (o + 1) vs
theorem run_storeCells_sat {P : Program} {m : Amb} {R : List HP} {b o e : Nat} : ∀ (vs : List Value) (j : Nat) (w : World) (l : List Value), Sat m (blk b (cl l e) :: R) w → o + j + vs.length ≤ l.length → (∀ v ∈ vs, v.oneCell' = true) →
    ∃ w', (storeCells ⟨b, o, none⟩ vs j).run P w = .ok () w' ∧ Sat m (blk b (cl (spl l (o + j) vs) e) :: R) w' := by
  intro vs
  induction vs with
  | nil => intro j w l h _ _; exact ⟨w, rfl, h⟩
  | cons v vs ih =>
    intro j w l h hl hc
    have hb := h.at_ (i := 0) rfl
    simp only [List.length_cons] at hl
    have hcell : w.cell? ⟨b, o + j, none⟩ = some (l[o + j]'(by omega)) := by simp [World.cell?, hb, cl, show o + j < l.length by omega]
    have hf : w.frozen? ⟨b, o + j, none⟩ = false := by simp [World.frozen?, hb, cl]
    have hset := Sat.set (a := ⟨b, o + j, none⟩) (i := 0) h rfl rfl v
    simp only [List.setIfInBounds_toArray] at hset
    obtain ⟨w', hr, hs⟩ := ih (j + 1) _ (l.set (o + j) v) hset (by simp; omega) (fun u hu => hc u (by simp [hu]))
    refine ⟨w', ?_, by simpa [spl, Nat.add_assoc] using hs⟩
    simp only [storeCells, Sem.run_bind, addr_add, run_store P w _ v .plain (hc v (by simp)), hcell, hf, Bool.false_eq_true, if_false, Result.andThen_ok]
    simpa [addr_add] using hr
section
variable {P : Program} {n : Nat} {ds : List Deferred} {σ : Env} {m : Amb} {L R : List HP} {Q : Exit → Act → World → Prop} {K : Act → World → Prop}
variable {ty : TypeId} {pos : String} {aft : Array Edge} {gd : Option (Nat × Bool)} {x y : Operand} {t : TypeId}
theorem s_storeN {i b o : Nat} {l vs : List Value} {eb : TypeId} {s z : Nat} {zv : Value} [h' : TyI P t s z zv] (hx : opd σ x = some (.pointer (some ⟨b, o, none⟩))) (hy : opd σ y = some (.agg vs.toArray))
    (hi : takeAt i L = some (blk b (cl l eb), R)) (hs : Nat.beq s vs.length = true) (h1 : vs.all (·.oneCell') = true) (ho : Nat.ble (o + vs.length) l.length = true)
    (h : G n ds σ m (blk b (cl (spl l o vs) eb) :: R) K) : G n ds σ m L (St P ⟨none, .store t x y, ty, pos, aft, gd⟩ K Q) := by
  refine s_effU rfl fun a w g hw => ?_
  obtain ⟨w', hr, hs'⟩ := run_storeCells_sat (P := P) (o := o) vs 0 w l (hw.ent (takeAt_ent hi)) (by simpa using Nat.le_of_ble_eq_true ho) (fun v hv => by simpa using List.all_eq_true.1 h1 v hv)
  refine ⟨w', ?_, _, by simpa using hs', h⟩
  have hs := Nat.eq_of_beq_eq_true hs
  simp [execOp, opd_eval g hx, opd_eval g hy, Instr.storeAt, Instr.sureAddr, storeVar, run_sizeOf h', Value.cells, hs, hr]
end
/- which kind of operation it is -/
section
variable {P : Program} {σ : Env} {m : Amb} {L : List HP} {d : Option Tmp} {ty : TypeId} {pos : String} {aft : Array Edge} {gd : Option (Nat × Bool)} {v : Value}
theorem k_bin {op : BinOp} {t u : TypeId} {x y : Operand} (h : RunV P ⟨d, .binOp op t x y u, ty, pos, aft, gd⟩ σ m L v) : RunV P ⟨d, .binOp op t x y u, ty, pos, aft, gd⟩ σ m L v := h
theorem k_call {c : Call} (h : RunV P ⟨d, .call c, ty, pos, aft, gd⟩ σ m L v) : RunV P ⟨d, .call c, ty, pos, aft, gd⟩ σ m L v := h
theorem k_load {t : TypeId} {x : Operand} (h : RunV P ⟨d, .load t x, ty, pos, aft, gd⟩ σ m L v) : RunV P ⟨d, .load t x, ty, pos, aft, gd⟩ σ m L v := h
theorem k_as {x : Operand} {s t : TypeId} {b : Bool} (h : RunV P ⟨d, .typeAssert x s t b, ty, pos, aft, gd⟩ σ m L v) : RunV P ⟨d, .typeAssert x s t b, ty, pos, aft, gd⟩ σ m L v := h
end

/- numbers that are not below 0 -/
section
variable {P : Program} {σ : Env} {d : Option Tmp} {ty : TypeId} {pos : String} {aft : Array Edge} {gd : Option (Nat × Bool)} {x y : Operand} {t u : TypeId} {k j : IntKind}
theorem wrap_nn {k : IntKind} {a : Nat} (h : (a : Int) ≤ k.max) : k.wrap (a : Int) = (a : Int) := by
  cases k <;> simp [IntKind.max, IntKind.signed, IntKind.bits] at h <;> simp [IntKind.wrap, IntKind.signed, IntKind.bits] <;> omega
theorem r_shlN {a : Nat} (c : Nat) (hx : opd σ x = some (.int k (a : Nat))) (hy : opd σ y = some (.int j (c : Nat))) (hc : Nat.ble c k.bits = true) (hm : ((a * 2 ^ c : Nat) : Int) ≤ k.max) : RunS P ⟨d, .binOp .shl t x y u, ty, pos, aft, gd⟩ σ (.int k ((a * 2 ^ c : Nat) : Int)) := by
  have h := r_shl (P := P) (d := d) (t := t) (u := u) (ty := ty) (pos := pos) (aft := aft) (gd := gd) hx hy (Int.natCast_nonneg c)
  have e : ((a : Int) * 2 ^ c) = ((a * 2 ^ c : Nat) : Int) := by simp
  rwa [Int.toNat_natCast, Nat.min_eq_left (Nat.le_of_ble_eq_true hc), e, wrap_nn hm] at h
end

/- more on slices -/
section
variable {P : Program} {n : Nat} {ds : List Deferred} {σ : Env} {m : Amb} {L R : List HP} {Q : Exit → Act → World → Prop} {K : Act → World → Prop}
variable {d : Nat} {ty : TypeId} {pos : String} {aft : Array Edge} {gd : Option (Nat × Bool)} {x y : Operand} {t e : TypeId}
/-- a slice that is not empty heads a block -/
theorem slP_some {a : Option Addr} {k c size : Nat} {l : List Value} {Φ : Act → World → Prop} (hl : l ≠ []) (h : ∀ b, a = some ⟨b, 0, none⟩ → l.length = k * size → k ≤ c → c ≤ maxLen → G n ds σ m (slP (.slice (some ⟨b, 0, none⟩) k c) e size l :: L) Φ) :
    G n ds σ m (slP (.slice a k c) e size l :: L) Φ := fun ac w h1 h2 h3 h4 => by
  rcases slP_cases h4.2.2.2 with ⟨_, h0⟩ | ⟨b, cap, k', e1, e2, e3, e4, _⟩
  · exact absurd h0 hl
  · simp only [Value.slice.injEq] at e1
    obtain ⟨rfl, rfl, rfl⟩ := e1
    exact h b rfl e2 e3 e4 ac w h1 h2 h3 h4
theorem rd_sl {b o k c size : Nat} {l : List Value} {v : Value} (i : Nat) (hi : takeAt i L = some (slP (.slice (some ⟨b, 0, none⟩) k c) e size l, R)) (hv : l[o]? = some v) : Rd L ⟨b, o, none⟩ v := fun m w h => by
  have h' := h.ent (takeAt_ent hi)
  rcases slP_cases h'.2.2.2 with ⟨e0, _⟩ | ⟨b', cap, k', e1, e2, e3, e4, hr⟩
  · simp at e0
  · simp only [Value.slice.injEq, Option.some.injEq, Addr.mk.injEq] at e1
    obtain ⟨⟨rfl, _⟩, rfl, rfl⟩ := e1
    exact row_cell (m := m) ⟨h'.1, h'.2.1, h'.2.2.1, hr⟩ hv
theorem rdn_sl {b k c size : Nat} {l : List Value} (i : Nat) (hi : takeAt i L = some (slP (.slice (some ⟨b, 0, none⟩) k c) e size l, R)) : RdN L b 0 l :=
  RdN.of fun j v hv => rd_sl i hi (by simpa using hv)
theorem Src.ent {L' : List HP} {size k : Nat} {v : Value} {l : List Value} (h : Src L size v k l) (e : Ent L' L) : Src L' size v k l := by
  cases h with
  | nil => exact .nil
  | emp a c => exact .emp a c
  | some b o k c _ hl hr => exact .some b o k c _ hl (RdN.of fun j v hv m w hw => hr.get hv m w (hw.ent e))

/-- bytes as cells -/
def u8s (l : List UInt8) : List Value := l.map fun b => Value.int .u8 b.toNat
@[simp] theorem u8s_length (l : List UInt8) : (u8s l).length = l.length := by simp [u8s]
theorem u8s_one (l : List UInt8) : (u8s l).all (·.oneCell') = true := by simp [u8s, Value.oneCell']
/-- a block that is read alone -/
def ro (b e : Nat) (l : List Value) : HP := fun h => ∃ c fz, h b = some (.cells c e fz) ∧ c.toList.take l.length = l
theorem rdn_ro {b : Nat} {l : List Value} (i : Nat) (hi : takeAt i L = some (ro b e l, R)) : RdN L b 0 l := RdN.of fun j v hv m w h => by
  obtain ⟨g, hg, c, fz, hc, ht⟩ := (h.ent (takeAt_ent hi)).2.2.2.head
  have e2 : w.heap[b]? = some (.cells c e fz) := hg _ _ hc
  simp only [Nat.zero_add]
  rw [← ht, List.getElem?_take] at hv
  split at hv
  · simp [World.cell?, e2]; simpa using hv
  · cases hv
/-- string(b) -/
theorem r_bStr {od : Option Tmp} {tS : TypeId} {a : Option Addr} {k c : Nat} {bs : List UInt8} {l : List Value} [h1 : TyU P t (.slice e)] [h2 : TyU P e (.int .u8)] [h3 : TyU P tS .string] (hx : opd σ x = some (.slice a k c)) (hs : Src L 1 (.slice a k c) k l) (hbs : l = u8s bs) :
    RunV P ⟨od, .convert t tS x, ty, pos, aft, gd⟩ σ m L (.string ⟨bs.toArray⟩) := fun ac w g hw => by
  simp only [execOp, opd_eval g hx]
  cases hs with
  | nil =>
    have hb : bs = [] := by simpa [u8s] using hbs.symm
    subst hb
    simp [run_convert_bytes_string (P := P) w t tS e none 0 0 h1.h h2.h h3.h, Conv.bytesToString]
    rfl
  | emp ad c =>
    have hb : bs = [] := by simpa [u8s] using hbs.symm
    subst hb
    have hlc : (loadCells ad 0).run P w = .ok #[] w := run_loadCells_list (P := P) w ad [] (fun j v hv => by simp at hv)
    simp [run_convert_bytes_string (P := P) w t tS e (Option.some ad) 0 c h1.h h2.h h3.h, Conv.bytesToString, hlc]
    rfl
  | some b o _ _ _ hl hr =>
    subst hbs
    have hlen : bs.length = k := by simpa using hl
    subst hlen
    have := run_convert_bytes_back (P := P) w t tS e ⟨b, o, none⟩ c bs h1.h h2.h h3.h (fun j hj => by
      rw [addr_add]
      exact hr.get (j := j) (by simp [u8s, hj]) m w hw)
    simp [this]
end

/- 9. more laws -/
section
variable {P : Program} {n : Nat} {ds : List Deferred} {σ : Env} {m : Amb} {L R : List HP} {Q : Exit → Act → World → Prop} {K : Act → World → Prop}
variable {d : Nat} {ty : TypeId} {pos : String} {aft : Array Edge} {gd : Option (Nat × Bool)} {x y : Operand} {t e : TypeId}

theorem Ent.perm {L L' : List HP} (h : L.Perm L') : Ent L L' := by
  induction h with
  | nil => exact Ent.refl _
  | cons A _ ih => exact Ent.cons ih
  | swap A B l => exact fun _ h => h.swap
  | trans _ _ ih1 ih2 => exact ih1.trans ih2
theorem Ent.drop {A : HP} {L : List HP} : Ent (A :: L) L := fun _ h => h.tail



/- bounds that panic -/

/- scopes that are jumped in -/
section
variable {l : Nat} {J : Act → World → Prop}
theorem q_jump_n (h : G n ds σ m L (Q .normal)) : G n ds σ m L (Exit.jump l J Q .normal) := h
theorem q_jump_r (h : G n ds σ m L (Q .ret)) : G n ds σ m L (Exit.jump l J Q .ret) := h
theorem q_jump_p {c : List PanicEntry} (h : G n ds σ m L (Q (.panic c))) : G n ds σ m L (Exit.jump l J Q (.panic c)) := h
theorem q_jump_g (h : G n ds σ m L J) : G n ds σ m L (Exit.jump l J Q (.goto l)) := fun a w h1 h2 h3 h4 => ⟨rfl, h a w h1 h2 h3 h4⟩
end
end
end Go.Sl
namespace Go.Sl
open Go
theorem Src.len {L : List HP} {size k : Nat} {v : Value} {l : List Value} (h : Src L size v k l) : l.length = k * size := by
  cases h with
  | nil => simp
  | emp _ _ => simp
  | some _ _ _ _ _ hl _ => exact hl
theorem opd_int {σ : Env} {x : Operand} {k : IntKind} {a b : Int} (h : opd σ x = some (.int k a)) (e : a = b) : opd σ x = some (.int k b) := e ▸ h
theorem Ent.left : ∀ (A F : List HP), Ent (A ++ F) A
  | [], _ => fun _ _ => True.intro
  | _ :: A, F => Ent.cons (Ent.left A F)
theorem Src.spot {L : List HP} {size k c : Nat} {a : Addr} {l : List Value} (h : Src L size (.slice (Option.some a) k c) k l) (hk : k ≠ 0) : a.spot = Option.none := by
  cases h with
  | emp _ _ => exact absurd rfl hk
  | some => rfl
theorem max_i64 : IntKind.i64.max = 9223372036854775807 := by decide
theorem opds_pairs {σ : Env} {a : Act} (g : Agr σ a.tmps) : ∀ {parts : List (Nat × Operand)} {vs : List Value}, opds σ (parts.map (·.2)) = some vs → parts.map (fun p => (p.1, a.eval p.2)) = (parts.map (·.1)).zip vs := by
  intro parts
  induction parts with
  | nil => intro vs h; simp
  | cons p ps ih =>
    intro vs h
    simp only [List.map_cons, opds] at h
    cases hx : opd σ p.2 with
    | none => simp [hx] at h
    | some v =>
      simp only [hx] at h
      cases hy : opds σ (ps.map (·.2)) with
      | none => simp [hy] at h
      | some us =>
        simp only [hy, Option.some.injEq] at h
        subst h
        simp [opd_eval g hx, ih hy]
/-- a struct's literal -/
theorem r_build {P : Program} {σ : Env} {d : Option Tmp} {ty t : TypeId} {pos : String} {aft : Array Edge} {gd : Option (Nat × Bool)} {parts : List (Nat × Operand)} {vs : List Value} {cells : Array Value} (hx : opds σ (parts.map (·.2)) = some vs)
    (h : P.built t ((parts.map (·.1)).zip vs) = some cells) : RunS P ⟨d, .build t parts.toArray, ty, pos, aft, gd⟩ σ (.agg cells) := fun a w g => by
  have hb := run_build (P := P) w t ((parts.map (·.1)).zip vs).toArray cells (by simpa using h)
  simp only [execOp]
  rw [show (parts.toArray.map fun (p : Nat × Operand) => (p.1, a.eval p.2)) = ((parts.map (·.1)).zip vs).toArray from by rw [List.map_toArray, opds_pairs g hx]]
  simp [hb]
theorem pure_in {A : HP} {L : List HP} (h : A fun _ => none) : Ent L (A :: L) := fun H hl => ⟨fun _ => none, H, fun _ _ e => (by cases e), PH.sub.refl _, fun _ => Or.inl rfl, h, hl⟩
end Go.Sl
