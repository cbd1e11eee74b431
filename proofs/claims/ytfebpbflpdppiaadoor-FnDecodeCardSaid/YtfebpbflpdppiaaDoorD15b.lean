/- The bytes that scalars are encoded to. Printed by a program (wip/tools/genD15b.py). -/
import Derived.Test.YtfebpbflpdppiaaDoorD15
namespace Go.Proofs.YtfebpbflpdppiaaDoor
open Go Go.Sl
set_option maxRecDepth 100000
def encIB (n : Int) : List UInt8 :=
  if n < (-72057594037927936) then 69 :: beB n 8
  else if n < (-281474976710656) then 70 :: beB n 7
  else if n < (-1099511627776) then 71 :: beB n 6
  else if n < (-4294967296) then 72 :: beB n 5
  else if n < (-16777216) then 73 :: beB n 4
  else if n < (-65536) then 74 :: beB n 3
  else if n < (-256) then 75 :: beB n 2
  else if n < 0 then 76 :: beB n 1
  else if n ≤ 170 then [bB (85 + n) 0]
  else if n ≤ 255 then 77 :: beB n 1
  else if n ≤ 65535 then 78 :: beB n 2
  else if n ≤ 16777215 then 79 :: beB n 3
  else if n ≤ 4294967295 then 80 :: beB n 4
  else if n ≤ 1099511627775 then 81 :: beB n 5
  else if n ≤ 281474976710655 then 82 :: beB n 6
  else if n ≤ 72057594037927935 then 83 :: beB n 7
  else 84 :: beB n 8
theorem ite_u8s {c : Prop} [Decidable c] {a b : List Value} {x y : List UInt8} (h1 : a = u8s x) (h2 : b = u8s y) : (if c then a else b) = u8s (if c then x else y) := by split <;> assumption
theorem encI_B (n : Int) : encI n = u8s (encIB n) := by
  unfold encI encIB
  repeat' (refine ite_u8s ?_ ?_)
  all_goals simp only [beB, u8s, List.map_cons, List.map_nil, bt_b, b0_b]
  all_goals rfl
def encUB (n : Nat) : List UInt8 :=
  if n ≤ 255 then beB n 1
  else if n ≤ 65535 then beB n 2
  else if n ≤ 16777215 then beB n 3
  else if n ≤ 4294967295 then beB n 4
  else if n ≤ 1099511627775 then beB n 5
  else if n ≤ 281474976710655 then beB n 6
  else if n ≤ 72057594037927935 then beB n 7
  else beB n 8
theorem encU_B (n : Nat) : encU n = u8s (encUB n) := by
  unfold encU encUB
  repeat' (refine ite_u8s ?_ ?_)
  all_goals simp only [beB, u8s, List.map_cons, List.map_nil, bt_b, b0_b]
  all_goals rfl
end Go.Proofs.YtfebpbflpdppiaaDoor
