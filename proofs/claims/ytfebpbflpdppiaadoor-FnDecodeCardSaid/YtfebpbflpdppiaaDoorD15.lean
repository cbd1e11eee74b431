/- The plain law: what is encoded is decoded to the same. No program stands here. -/
import Derived.Test.YtfebpbflpdppiaaDoorD9
namespace Go.Proofs.YtfebpbflpdppiaaDoor
open Go Go.Sl
set_option maxRecDepth 100000
/-- byte(n >> c) as a byte -/
def bB (n : Int) (c : Nat) : UInt8 := UInt8.ofNat ((n.fdiv (2 ^ c)) % 256).toNat
theorem u8w (n : Int) : IntKind.u8.wrap n = ((UInt8.ofNat (n % 256).toNat).toNat : Int) := by
  simp only [IntKind.wrap, IntKind.signed, IntKind.bits]
  simp
  omega
theorem bt_b (n : Int) (c : Nat) : bt n c = .int .u8 ((bB n c).toNat : Int) := by unfold bt bB; rw [u8w]
theorem b0_b (n : Int) : b0 n = .int .u8 ((bB n 0).toNat : Int) := by unfold b0 bB; rw [u8w, Int.pow_zero, Int.fdiv_one]
theorem bB_nat (n : Int) (c : Nat) : (bB n c).toNat = ((n.fdiv (2 ^ c)) % 256).toNat := by
  unfold bB
  simp
  omega
/-- the k last bytes of a number, the highest first -/
def beB (n : Int) : Nat → List UInt8
  | 0 => []
  | k + 1 => bB n (8 * k) :: beB n k
theorem beB_len (n : Int) : ∀ k, (beB n k).length = k := by
  intro k
  induction k with
  | zero => rfl
  | succ k ih => simp [beB, ih]
theorem bB_div (n : Int) (k : Nat) : ((bB n (8 * k)).toNat : Int) = n / 256 ^ k % 256 := by
  have hp : (2 : Int) ^ (8 * k) = 256 ^ k := by rw [Int.pow_mul]; rfl
  rw [bB_nat, hp, Int.fdiv_eq_ediv_of_nonneg _ (Int.le_of_lt (Int.pow_pos (by decide)))]
  have := Int.emod_nonneg (n / 256 ^ k) (show (256 : Int) ≠ 0 by decide)
  omega
theorem wrap_i64_cong {a b : Int} (h : a % 18446744073709551616 = b % 18446744073709551616) : IntKind.i64.wrap a = IntKind.i64.wrap b := by
  simp only [IntKind.wrap, IntKind.signed, IntKind.bits]
  simp [h]
theorem wrap_i64_mod (a : Int) : IntKind.i64.wrap a % 18446744073709551616 = a % 18446744073709551616 := by
  simp only [IntKind.wrap, IntKind.signed, IntKind.bits]
  simp
  split <;> omega
theorem mod_split (n : Int) (k : Nat) : n / 256 ^ k % 256 * 256 ^ k + n % 256 ^ k = n % 256 ^ (k + 1) := by
  have hp : (0 : Int) < 256 ^ k := Int.pow_pos (by decide)
  rw [Int.pow_succ]
  generalize (256 : Int) ^ k = p at hp
  have h1 := Int.mul_ediv_add_emod n p
  have h2 := Int.mul_ediv_add_emod (n / p) 256
  have h3 := Int.emod_nonneg n (show p ≠ 0 by omega)
  have h4 := Int.emod_lt_of_pos n hp
  have h5 := Int.emod_nonneg (n / p) (show (256 : Int) ≠ 0 by decide)
  have h6 := Int.emod_lt_of_pos (n / p) (show (0 : Int) < 256 by decide)
  generalize n % p = r at *
  generalize hq : n / p = q at *
  generalize q % 256 = s at *
  generalize q / 256 = t at *
  have e : n = (s * p + r) + p * 256 * t := by
    rw [← h1, ← h2, Int.mul_add, Int.mul_comm p s, ← Int.mul_assoc]; omega
  have h7 : 0 ≤ s * p := Int.mul_nonneg h5 (Int.le_of_lt hp)
  have h8 : s * p ≤ 255 * p := Int.mul_le_mul_of_nonneg_right (by omega) (Int.le_of_lt hp)
  rw [e, Int.add_mul_emod_self_left, Int.emod_eq_of_lt (by omega) (by omega)]
theorem bei_beB (n : Int) : ∀ (k : Nat) (u : Int), IntKind.i64.wrap (bei u (beB n k)) = IntKind.i64.wrap (u * 256 ^ k + n % 256 ^ k) := by
  intro k
  induction k with
  | zero => intro u; simp [beB, bei]
  | succ k ih =>
    intro u
    have e : bei u (beB n (k + 1)) = bei (IntKind.i64.wrap (u * 256 + (bB n (8 * k)).toNat)) (beB n k) := rfl
    rw [e, ih, bB_div]
    refine wrap_i64_cong ?_
    rw [← mod_split n k, Int.pow_succ]
    generalize n / 256 ^ k % 256 = q
    generalize n % 256 ^ k = r
    generalize (256 : Int) ^ k = p
    have h1 := wrap_i64_mod (u * 256 + q)
    rw [Int.add_emod, Int.mul_emod, h1, ← Int.mul_emod, ← Int.add_emod, Int.add_mul]
    congr 1
    have : u * 256 * p = u * (p * 256) := by rw [Int.mul_assoc, Int.mul_comm 256 p]
    omega
theorem beu_beB (n : Int) : ∀ (k : Nat) (u : Nat), ((beu u (beB n k) : Nat) : Int) % 18446744073709551616 = ((u : Int) * 256 ^ k + n % 256 ^ k) % 18446744073709551616 := by
  intro k
  induction k with
  | zero => intro u; simp [beB, beu]
  | succ k ih =>
    intro u
    have e : beu u (beB n (k + 1)) = beu (u * 256 % 18446744073709551616 + (bB n (8 * k)).toNat) (beB n k) := rfl
    rw [e, ih]
    have e2 : ((u * 256 % 18446744073709551616 + (bB n (8 * k)).toNat : Nat) : Int) = (u : Int) * 256 % 18446744073709551616 + n / 256 ^ k % 256 := by rw [← bB_div]; omega
    rw [e2, ← mod_split n k, Int.pow_succ]
    generalize n / 256 ^ k % 256 = q
    generalize n % 256 ^ k = r
    generalize (256 : Int) ^ k = p
    rw [Int.add_mul, Int.add_assoc, Int.add_emod, Int.mul_emod, Int.emod_emod_of_dvd _ (Int.dvd_refl _), ← Int.mul_emod, ← Int.add_emod]
    congr 1
    have : (u : Int) * 256 * p = u * (p * 256) := by rw [Int.mul_assoc, Int.mul_comm 256 p]
    omega
theorem bei_wrap (u : Int) (l : List UInt8) (h : l ≠ []) : IntKind.i64.wrap (bei u l) = bei u l := by
  have hw : ∀ a, IntKind.i64.wrap (IntKind.i64.wrap a) = IntKind.i64.wrap a := fun a => wrap_i64_cong (wrap_i64_mod a)
  unfold bei
  induction l generalizing u with
  | nil => exact absurd rfl h
  | cons v l ih =>
    cases l with
    | nil => exact hw _
    | cons x l => exact ih _ (by simp)
end Go.Proofs.YtfebpbflpdppiaaDoor
