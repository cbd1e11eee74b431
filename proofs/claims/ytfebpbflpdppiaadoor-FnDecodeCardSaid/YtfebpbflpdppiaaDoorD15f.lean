/- Unsigned numbers: encoded, as bytes, and back. -/
import Derived.Test.YtfebpbflpdppiaaDoorD15e
namespace Go.Proofs.YtfebpbflpdppiaaDoor
open Go Go.Sl
set_option maxRecDepth 100000
theorem kB_spec (n : Nat) (h : n < 18446744073709551616) : 1 ≤ kB n ∧ kB n ≤ 8 ∧ n < 256 ^ kB n ∧ (0 < n → 256 ^ (kB n - 1) ≤ n) := by
  unfold kB
  repeat' split
  all_goals
    refine ⟨by omega, by omega, ?_, ?_⟩
    · simp only [show (256 : Nat) ^ 1 = 256 by decide, show (256 : Nat) ^ 2 = 65536 by decide, show (256 : Nat) ^ 3 = 16777216 by decide, show (256 : Nat) ^ 4 = 4294967296 by decide, show (256 : Nat) ^ 5 = 1099511627776 by decide, show (256 : Nat) ^ 6 = 281474976710656 by decide, show (256 : Nat) ^ 7 = 72057594037927936 by decide, show (256 : Nat) ^ 8 = 18446744073709551616 by decide]; omega
    · intro hp
      simp only [Nat.reduceSub, Nat.pow_zero, show (256 : Nat) ^ 1 = 256 by decide, show (256 : Nat) ^ 2 = 65536 by decide, show (256 : Nat) ^ 3 = 16777216 by decide, show (256 : Nat) ^ 4 = 4294967296 by decide, show (256 : Nat) ^ 5 = 1099511627776 by decide, show (256 : Nat) ^ 6 = 281474976710656 by decide, show (256 : Nat) ^ 7 = 72057594037927936 by decide]; omega
def encUiB (n : Nat) : List UInt8 := UInt8.ofNat (60 + kB n) :: beB n (kB n)
theorem encUi_B (n : Nat) (h : n < 18446744073709551616) : encUi n = u8s (encUiB n) := by
  obtain ⟨k1, k2, k3, k4⟩ := kB_spec n h
  have hb : ((max 1 (bl n : Int) - 1).fdiv (2 ^ 3)) = ((kB n - 1 : Nat) : Int) := by
    rw [Int.fdiv_eq_ediv_of_nonneg _ (by decide), show (2 : Int) ^ 3 = 8 by decide]
    rcases Nat.eq_zero_or_pos n with h0 | h0
    · subst h0; rw [bl_zero]; rfl
    · have e := kB_bl n h (kB n) (k4 h0) k3 k1
      have : 0 < bl n := by rw [bl_pos h0]; omega
      omega
  unfold encUi encUiB
  rw [hb, encU_B, encUB_k]
  simp only [u8s, List.map_cons]
  congr 2
  rw [show IntKind.u8.wrap ((kB n - 1 : Nat) : Int) = ((kB n - 1 : Nat) : Int) from wrap_nn (by rw [show IntKind.u8.max = 255 by decide]; omega), show (61 : Int) + ((kB n - 1 : Nat) : Int) = ((60 + kB n : Nat) : Int) by omega, wrap_nn (by rw [show IntKind.u8.max = 255 by decide]; omega)]
  simp; omega
end Go.Proofs.YtfebpbflpdppiaaDoor
