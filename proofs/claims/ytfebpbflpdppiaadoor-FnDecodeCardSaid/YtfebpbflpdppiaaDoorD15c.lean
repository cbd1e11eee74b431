/- Decoding what was encoded, scalar by scalar. -/
import Derived.Test.YtfebpbflpdppiaaDoorD15b
namespace Go.Proofs.YtfebpbflpdppiaaDoor
open Go Go.Sl
set_option maxRecDepth 100000
theorem taken_app (mk : List UInt8 → Sc) (a r : List UInt8) (n : Nat) (h : a.length = n) : taken mk (a ++ r) n = .ok (mk a) r := by
  unfold taken
  rw [if_neg (by simp; omega), List.take_left' h, List.drop_left' h]
theorem at1_cons (t : UInt8) (l : List UInt8) : at1 (t :: l) 0 = t.toNat := rfl
theorem beB_ne (n : Int) (k : Nat) (h : 0 < k) : beB n k ≠ [] := fun e => by have := beB_len n k; rw [e] at this; simp at this; omega
theorem wrap_id {n : Int} (h : -9223372036854775808 ≤ n ∧ n ≤ 9223372036854775807) : IntKind.i64.wrap n = n := wrap_i64 h
theorem dec_intP (t : UInt8) (k : Nat) (hk : 1 ≤ k ∧ k ≤ 8) (ht : t.toNat = 76 + k) (n : Int) (h0 : 0 ≤ n) (h1 : n < 256 ^ k) (h2 : n ≤ 9223372036854775807) (r : List UInt8) : dec1 (t :: beB n k ++ r) = .ok (.i64 n) r := by
  have h : at1 (t :: beB n k ++ r) 0 = 76 + k := ht
  unfold dec1
  simp only [h]
  rw [if_neg (by omega), if_neg (by omega), if_neg (by omega), if_neg (by omega), if_neg (by omega), if_neg (by omega), if_neg (by omega), if_neg (by omega), if_neg (by omega), if_neg (by omega), if_neg (by omega), if_neg (by omega), if_neg (by omega), if_neg (by omega), if_pos (by omega)]
  rw [show (t :: beB n k ++ r).drop 1 = beB n k ++ r from rfl, taken_app _ _ _ _ (by rw [beB_len]; omega)]
  have e := bei_beB n k 0
  rw [bei_wrap _ _ (beB_ne n k (by omega)), Int.zero_mul, Int.zero_add, Int.emod_eq_of_lt h0 h1, wrap_id (by omega)] at e
  rw [e]
theorem dec_intM (t : UInt8) (k : Nat) (hk : 1 ≤ k ∧ k ≤ 8) (ht : t.toNat = 77 - k) (n : Int) (h0 : n < 0) (h1 : -(256 ^ k) ≤ n) (h2 : -9223372036854775808 ≤ n) (r : List UInt8) : dec1 (t :: beB n k ++ r) = .ok (.i64 n) r := by
  have h : at1 (t :: beB n k ++ r) 0 = 77 - k := ht
  unfold dec1
  simp only [h]
  rw [if_neg (by omega), if_neg (by omega), if_neg (by omega), if_neg (by omega), if_neg (by omega), if_neg (by omega), if_neg (by omega), if_neg (by omega), if_neg (by omega), if_neg (by omega), if_neg (by omega), if_neg (by omega), if_neg (by omega), if_pos (by omega)]
  rw [show (t :: beB n k ++ r).drop 1 = beB n k ++ r from rfl, taken_app _ _ _ _ (by rw [beB_len]; omega)]
  have e := beu_beB n k 18446744073709551615
  have hm : n % 256 ^ k = n + 256 ^ k := by
    have hp : (0 : Int) < 256 ^ k := Int.pow_pos (by decide)
    rw [show n = (n + 256 ^ k) + 256 ^ k * (-1) by omega, Int.add_mul_emod_self_left, Int.emod_eq_of_lt (by omega) (by omega)]
    omega
  rw [hm] at e
  have e2 : IntKind.i64.wrap ((beu 18446744073709551615 (beB n k) : Nat) : Int) = n := by
    rw [← wrap_id (n := n) (by omega)]
    refine wrap_i64_cong ?_
    rw [wrap_id (n := n) (by omega), e]
    generalize (256 : Int) ^ k = p
    rw [show ((18446744073709551615 : Nat) : Int) * p + (n + p) = n + 18446744073709551616 * p by omega, Int.add_mul_emod_self_left]
  rw [e2]
theorem dec_uint (t : UInt8) (k : Nat) (hk : 1 ≤ k ∧ k ≤ 8) (ht : t.toNat = 60 + k) (n : Nat) (h1 : (n : Int) < 256 ^ k) (h2 : n < 18446744073709551616) (r : List UInt8) : dec1 (t :: beB n k ++ r) = .ok (.u64 n) r := by
  have h : at1 (t :: beB n k ++ r) 0 = 60 + k := ht
  unfold dec1
  simp only [h]
  rw [if_neg (by omega), if_neg (by omega), if_neg (by omega), if_neg (by omega), if_neg (by omega), if_neg (by omega), if_neg (by omega), if_neg (by omega), if_neg (by omega), if_neg (by omega), if_neg (by omega), if_neg (by omega), if_pos (by omega)]
  rw [show (t :: beB n k ++ r).drop 1 = beB n k ++ r from rfl, taken_app _ _ _ _ (by rw [beB_len]; omega)]
  have e := beu_beB n k 0
  have hb := beu_lt 0 (beB n k) (by decide)
  rw [show ((0 : Nat) : Int) * 256 ^ k = 0 by simp, Int.zero_add, Int.emod_eq_of_lt (by omega) h1] at e
  have e2 : beu 0 (beB n k) = n := by omega
  rw [e2]
end Go.Proofs.YtfebpbflpdppiaaDoor
