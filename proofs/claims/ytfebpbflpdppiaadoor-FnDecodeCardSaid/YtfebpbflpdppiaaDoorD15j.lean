/- Bytes and strings: encoded, as bytes, and back; all scalars; lists. -/
import Derived.Test.YtfebpbflpdppiaaDoorD15i
namespace Go.Proofs.YtfebpbflpdppiaaDoor
open Go Go.Sl
set_option maxRecDepth 100000
def hdBytes (n : Nat) : List UInt8 := if n ≤ 17 then [bB (21 + (n : Nat)) 0] else if n ≤ 255 then [39, bB (n : Nat) 0] else [40, bB ((n : Nat) - 1) 8, bB ((n : Nat) - 1) 0]
def hdStr (n : Nat) : List UInt8 := if n ≤ 17 then [bB (41 + (n : Nat)) 0] else (if n ≤ 255 then 59 else 60) :: encUB n
def encScB : Sc → List UInt8
  | .nil => [0]
  | .bool b => [if b then 2 else 1]
  | .i64 n => encIB n
  | .u64 n => encUiB n
  | .f64 u => encFB 3 u
  | .c128 u v => encFB 12 u ++ encFB 12 v
  | .bytes s => hdBytes s.length ++ s
  | .str s => hdStr s.length ++ s
theorem encSc_B (s : Sc) (hw : s.wf) : encSc s = u8s (encScB s) := by
  cases s with
  | nil => rfl
  | bool b => cases b <;> rfl
  | i64 n => exact encI_B n
  | u64 n => exact encUi_B n hw
  | f64 u => exact encF_B 3 (by omega) u
  | c128 u v => simp only [encSc, encScB, u8s_append]; rw [← encF_B 12 (by omega) u, ← encF_B 12 (by omega) v]; rfl
  | bytes t =>
    simp only [encSc, encScB, hdBytes, u8s_append]
    split
    · simp [u8s, b0_b]
    · split
      · simp [u8s, b0_b]
      · simp [u8s, b0_b, bt_b]
  | str t =>
    simp only [encSc, encScB, hdStr, u8s_append]
    split
    · simp [u8s, b0_b]
    · rw [encU_B]
      split <;> simp [u8s]
end Go.Proofs.YtfebpbflpdppiaaDoor
