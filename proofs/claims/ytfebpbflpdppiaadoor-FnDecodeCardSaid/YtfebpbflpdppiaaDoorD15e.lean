/- How many bytes a number has. -/
import Derived.Test.YtfebpbflpdppiaaDoorD15d
namespace Go.Proofs.YtfebpbflpdppiaaDoor
open Go Go.Sl
set_option maxRecDepth 100000
theorem bl_lower : ∀ (k n : Nat), 2 ^ k ≤ n → k + 1 ≤ bl n := by
  intro k
  induction k with
  | zero =>
    intro n h
    have h0 : 0 < n := by rw [Nat.pow_zero] at h; omega
    rw [bl_pos h0]; omega
  | succ k ih =>
    intro n h
    have hp : 0 < 2 ^ k := Nat.two_pow_pos k
    rw [Nat.pow_succ] at h
    rw [bl_pos (by omega)]
    have := ih (n / 2) (by omega)
    omega
def kB (n : Nat) : Nat := if n ≤ 255 then 1 else if n ≤ 65535 then 2 else if n ≤ 16777215 then 3 else if n ≤ 4294967295 then 4 else if n ≤ 1099511627775 then 5 else if n ≤ 281474976710655 then 6 else if n ≤ 72057594037927935 then 7 else 8
theorem encUB_k (n : Nat) : encUB n = beB n (kB n) := by
  unfold encUB kB
  repeat' split
  all_goals rfl
theorem kB_bl (n : Nat) (h : n < 18446744073709551616) (k : Nat) (h1 : 256 ^ (k - 1) ≤ n) (h2 : n < 256 ^ k) (hk : 1 ≤ k) : (bl n - 1) / 8 = k - 1 := by
  have e1 := bl_lower (8 * (k - 1)) n (by rw [Nat.pow_mul]; exact h1)
  have e2 := bl_le (8 * k) n (by rw [Nat.pow_mul]; exact h2)
  omega
end Go.Proofs.YtfebpbflpdppiaaDoor
