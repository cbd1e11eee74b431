/- Decoding whole numbers that were encoded. Printed by a program (wip/tools/genD15d.py). -/
import Derived.Test.YtfebpbflpdppiaaDoorD15c
namespace Go.Proofs.YtfebpbflpdppiaaDoor
open Go Go.Sl
set_option maxRecDepth 100000
theorem dec_encI (n : Int) (h1 : -9223372036854775808 ≤ n) (h2 : n ≤ 9223372036854775807) (r : List UInt8) : dec1 (encIB n ++ r) = .ok (.i64 n) r := by
  unfold encIB
  by_cases c0 : n < (-72057594037927936)
  · rw [if_pos c0]
    exact dec_intM _ 8 (by omega) rfl n (by omega) (by rw [(show (256 : Int) ^ 8 = 18446744073709551616 by decide)]; omega) h1 r
  rw [if_neg c0]
  by_cases c1 : n < (-281474976710656)
  · rw [if_pos c1]
    exact dec_intM _ 7 (by omega) rfl n (by omega) (by rw [(show (256 : Int) ^ 7 = 72057594037927936 by decide)]; omega) h1 r
  rw [if_neg c1]
  by_cases c2 : n < (-1099511627776)
  · rw [if_pos c2]
    exact dec_intM _ 6 (by omega) rfl n (by omega) (by rw [(show (256 : Int) ^ 6 = 281474976710656 by decide)]; omega) h1 r
  rw [if_neg c2]
  by_cases c3 : n < (-4294967296)
  · rw [if_pos c3]
    exact dec_intM _ 5 (by omega) rfl n (by omega) (by rw [(show (256 : Int) ^ 5 = 1099511627776 by decide)]; omega) h1 r
  rw [if_neg c3]
  by_cases c4 : n < (-16777216)
  · rw [if_pos c4]
    exact dec_intM _ 4 (by omega) rfl n (by omega) (by rw [(show (256 : Int) ^ 4 = 4294967296 by decide)]; omega) h1 r
  rw [if_neg c4]
  by_cases c5 : n < (-65536)
  · rw [if_pos c5]
    exact dec_intM _ 3 (by omega) rfl n (by omega) (by rw [(show (256 : Int) ^ 3 = 16777216 by decide)]; omega) h1 r
  rw [if_neg c5]
  by_cases c6 : n < (-256)
  · rw [if_pos c6]
    exact dec_intM _ 2 (by omega) rfl n (by omega) (by rw [(show (256 : Int) ^ 2 = 65536 by decide)]; omega) h1 r
  rw [if_neg c6]
  by_cases c7 : n < 0
  · rw [if_pos c7]
    exact dec_intM _ 1 (by omega) rfl n (by omega) (by rw [(show (256 : Int) ^ 1 = 256 by decide)]; omega) h1 r
  rw [if_neg c7]
  by_cases c8 : n ≤ 170
  · rw [if_pos c8]
    have h : at1 ([bB (85 + n) 0] ++ r) 0 = (85 + n).toNat := by
      show (bB (85 + n) 0).toNat = _
      rw [bB_nat, Int.pow_zero, Int.fdiv_one]; omega
    unfold dec1
    simp only [h]
    rw [if_neg (by omega), if_neg (by omega), if_neg (by omega), if_neg (by omega), if_neg (by omega), if_neg (by omega), if_neg (by omega), if_neg (by omega), if_neg (by omega), if_neg (by omega), if_neg (by omega), if_neg (by omega), if_neg (by omega), if_neg (by omega), if_neg (by omega)]
    rw [show (((85 + n).toNat : Nat) : Int) - 85 = n by omega]
    rfl
  rw [if_neg c8]
  by_cases c9 : n ≤ 255
  · rw [if_pos c9]
    exact dec_intP _ 1 (by omega) rfl n (by omega) (by rw [(show (256 : Int) ^ 1 = 256 by decide)]; omega) h2 r
  rw [if_neg c9]
  by_cases c10 : n ≤ 65535
  · rw [if_pos c10]
    exact dec_intP _ 2 (by omega) rfl n (by omega) (by rw [(show (256 : Int) ^ 2 = 65536 by decide)]; omega) h2 r
  rw [if_neg c10]
  by_cases c11 : n ≤ 16777215
  · rw [if_pos c11]
    exact dec_intP _ 3 (by omega) rfl n (by omega) (by rw [(show (256 : Int) ^ 3 = 16777216 by decide)]; omega) h2 r
  rw [if_neg c11]
  by_cases c12 : n ≤ 4294967295
  · rw [if_pos c12]
    exact dec_intP _ 4 (by omega) rfl n (by omega) (by rw [(show (256 : Int) ^ 4 = 4294967296 by decide)]; omega) h2 r
  rw [if_neg c12]
  by_cases c13 : n ≤ 1099511627775
  · rw [if_pos c13]
    exact dec_intP _ 5 (by omega) rfl n (by omega) (by rw [(show (256 : Int) ^ 5 = 1099511627776 by decide)]; omega) h2 r
  rw [if_neg c13]
  by_cases c14 : n ≤ 281474976710655
  · rw [if_pos c14]
    exact dec_intP _ 6 (by omega) rfl n (by omega) (by rw [(show (256 : Int) ^ 6 = 281474976710656 by decide)]; omega) h2 r
  rw [if_neg c14]
  by_cases c15 : n ≤ 72057594037927935
  · rw [if_pos c15]
    exact dec_intP _ 7 (by omega) rfl n (by omega) (by rw [(show (256 : Int) ^ 7 = 72057594037927936 by decide)]; omega) h2 r
  rw [if_neg c15]
  exact dec_intP _ 8 (by omega) rfl n (by omega) (by rw [(show (256 : Int) ^ 8 = 18446744073709551616 by decide)]; omega) h2 r
end Go.Proofs.YtfebpbflpdppiaaDoor
