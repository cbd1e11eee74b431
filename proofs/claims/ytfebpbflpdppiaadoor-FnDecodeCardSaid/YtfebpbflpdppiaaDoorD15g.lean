/- Floats: their bytes turned, and back. -/
import Derived.Test.YtfebpbflpdppiaaDoorD15f
namespace Go.Proofs.YtfebpbflpdppiaaDoor
open Go Go.Sl
set_option maxRecDepth 100000
theorem rv_byte (u : Nat) : ∀ (i j : Nat), j < i → rv i u / 256 ^ j % 256 = u / 256 ^ (i - 1 - j) % 256 := by
  intro i
  induction i with
  | zero => intro j h; omega
  | succ i ih =>
    intro j h
    cases j with
    | zero => simp only [rv, Nat.pow_zero, Nat.div_one]; rw [show i + 1 - 1 - 0 = i by omega]; omega
    | succ j =>
      have e : rv (i + 1) u / 256 ^ (j + 1) = rv i u / 256 ^ j := by
        rw [Nat.pow_succ, Nat.mul_comm, ← Nat.div_div_eq_div_mul]
        congr 1
        simp only [rv]
        omega
      rw [e, ih j (by omega), show i + 1 - 1 - (j + 1) = i - 1 - j by omega]
theorem beB_get (m : Nat) : ∀ (k i : Nat), i < k → ((beB m k).getD i 0).toNat = m / 256 ^ (k - 1 - i) % 256 := by
  intro k
  induction k with
  | zero => intro i h; omega
  | succ k ih =>
    intro i h
    cases i with
    | zero =>
      have := bB_div (m : Int) k
      show (bB m (8 * k)).toNat = _
      rw [show k + 1 - 1 - 0 = k by omega]
      have e : ((m / 256 ^ k % 256 : Nat) : Int) = (m : Int) / 256 ^ k % 256 := by simp
      omega
    | succ i =>
      show ((beB m k).getD i 0).toNat = _
      rw [ih i (by omega), show k + 1 - 1 - (i + 1) = k - 1 - i by omega]
theorem low_zero (u k : Nat) (hk : k ≤ 8) (h : rv 8 u < 256 ^ k) : ∀ e, e ≤ 8 - k → u % 256 ^ e = 0 := by
  intro e
  induction e with
  | zero => intro _; simp [Nat.mod_one]
  | succ e ih =>
    intro he
    rw [Nat.mod_pow_succ, ih (by omega)]
    have hb := rv_byte u 8 (7 - e) (by omega)
    rw [show 8 - 1 - (7 - e) = e by omega] at hb
    have hz : rv 8 u / 256 ^ (7 - e) = 0 := Nat.div_eq_of_lt (Nat.lt_of_lt_of_le h (Nat.pow_le_pow_right (by decide) (by omega)))
    rw [← hb, hz]
    simp
theorem fs_beB (u k : Nat) (hu : u < 18446744073709551616) (hk : k ≤ 8) (h : rv 8 u < 256 ^ k) : fs (beB (rv 8 u : Nat) k) k = u := by
  have key : ∀ i, i ≤ k → fs (beB (rv 8 u : Nat) k) i = u % 256 ^ (8 - k + i) := by
    intro i
    induction i with
    | zero => intro _; rw [Nat.add_zero, low_zero u k hk h _ (Nat.le_refl _)]; rfl
    | succ i ih =>
      intro hi
      simp only [fs]
      rw [ih (by omega), beB_get _ _ _ (by omega), beB_len, rv_byte u 8 (k - 1 - i) (by omega), show 8 - 1 - (k - 1 - i) = 8 - k + i by omega, show (i + 8 - k) * 8 = 8 * (8 - k + i) by omega, Nat.pow_mul, show (2 : Nat) ^ 8 = 256 by decide, show 8 - k + (i + 1) = (8 - k + i) + 1 by omega, Nat.mod_pow_succ, Nat.mul_comm (256 ^ (8 - k + i))]
  rw [key k (Nat.le_refl _), show 8 - k + k = 8 by omega, Nat.mod_eq_of_lt (by rw [show (256 : Nat) ^ 8 = 18446744073709551616 by decide]; exact hu)]
theorem rv_zero (u : Nat) (hu : u < 18446744073709551616) (h : rv 8 u = 0) : u = 0 := by
  have := low_zero u 0 (by omega) (by rw [h]; decide) 8 (by omega)
  rwa [Nat.mod_eq_of_lt (by rw [show (256 : Nat) ^ 8 = 18446744073709551616 by decide]; exact hu)] at this
end Go.Proofs.YtfebpbflpdppiaaDoor
