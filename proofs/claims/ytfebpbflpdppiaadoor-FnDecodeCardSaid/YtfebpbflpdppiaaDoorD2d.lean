/- The walk over encInt. Printed by a program (wip/tools/genD2d.py). -/
import Derived.Test.YtfebpbflpdppiaaDoorD2a
namespace Go.Proofs.YtfebpbflpdppiaaDoor
open Go Go.Sl
set_option maxRecDepth 100000
attribute [local irreducible] wpList Code.wp Exit.then Exit.inBlock bodyPost RunS RunV G St Ct Sat Ent At Rd GQ QL wpAny wpOp wpQuiet slP Sl.ex sep
def encI (n : Int) : List Value :=
  if n < (-72057594037927936) then [.int .u8 69, bt n 56, bt n 48, bt n 40, bt n 32, bt n 24, bt n 16, bt n 8, b0 n]
  else if n < (-281474976710656) then [.int .u8 70, bt n 48, bt n 40, bt n 32, bt n 24, bt n 16, bt n 8, b0 n]
  else if n < (-1099511627776) then [.int .u8 71, bt n 40, bt n 32, bt n 24, bt n 16, bt n 8, b0 n]
  else if n < (-4294967296) then [.int .u8 72, bt n 32, bt n 24, bt n 16, bt n 8, b0 n]
  else if n < (-16777216) then [.int .u8 73, bt n 24, bt n 16, bt n 8, b0 n]
  else if n < (-65536) then [.int .u8 74, bt n 16, bt n 8, b0 n]
  else if n < (-256) then [.int .u8 75, bt n 8, b0 n]
  else if n < 0 then [.int .u8 76, b0 n]
  else if n ≤ 170 then [b0 (85 + n)]
  else if n ≤ 255 then [.int .u8 77, b0 n]
  else if n ≤ 65535 then [.int .u8 78, bt n 8, b0 n]
  else if n ≤ 16777215 then [.int .u8 79, bt n 16, bt n 8, b0 n]
  else if n ≤ 4294967295 then [.int .u8 80, bt n 24, bt n 16, bt n 8, b0 n]
  else if n ≤ 1099511627775 then [.int .u8 81, bt n 32, bt n 24, bt n 16, bt n 8, b0 n]
  else if n ≤ 281474976710655 then [.int .u8 82, bt n 40, bt n 32, bt n 24, bt n 16, bt n 8, b0 n]
  else if n ≤ 72057594037927935 then [.int .u8 83, bt n 48, bt n 40, bt n 32, bt n 24, bt n 16, bt n 8, b0 n]
  else [.int .u8 84, bt n 56, bt n 48, bt n 40, bt n 32, bt n 24, bt n 16, bt n 8, b0 n]
def okL (l : List Value) : Prop := 1 ≤ l.length ∧ l.length ≤ 9
theorem ite_ok {c : Prop} [Decidable c] {a b : List Value} (ha : okL a) (hb : okL b) : okL (if c then a else b) := by split <;> assumption
theorem encI_len (n : Int) : okL (encI n) := by
  unfold encI
  repeat' (refine ite_ok ?_ ?_)
  all_goals exact ⟨Nat.le_of_ble_eq_true rfl, Nat.le_of_ble_eq_true rfl⟩
set_option maxHeartbeats 8000000 in
theorem encInt_c (n : Int) (h1 : -9223372036854775808 ≤ n) (h2 : n ≤ 9223372036854775807) (pb : Nat) (ls : List Value) (hl : ls.length ≤ 1099511627776) : Ct Tryd.prog 33 #[.int .i64 n, .pointer (some ⟨pb, 0, none⟩)] [bufP pb ls] (fun v B => v = .tuple #[] ∧ B = [bufP pb (ls ++ encI n)]) nev := by
  refine Ct.of Tryd.func33 rfl Tryd.ntmps33 rfl fun m F => bufP_open fun a c => ?_
  unfold encI
  refine G.keep [(0, _), (1, _)] ⟨rfl, rfl, trivial⟩ ?_
  repeat (first | refine wW ?_ | intro b)
  by_cases h0' : n < (-72057594037927936)
  · refine c_condT (by rw [show decide ((n : Int) < (-72057594037927936)) = true from decide_eq_true (by omega)]; rfl) ?_
    rw [if_pos h0']
    repeat (first | refine wW ?_ | intro b)
    (refine l_plain rfl (s_append (i := 2) rfl rfl rfl (Src.some _ _ _ _ _ rfl (rdn_all 0 rfl)) rfl rfl (Nat.mul_one _).symm rfl (by omega) (by unfold maxLen; omega) rfl ?_); intro a c)
    repeat (first | refine wW ?_ | intro b)
    exact e_nor0 [bufP pb (ls ++ [Value.int IntKind.u8 69, bt n 56, bt n 48, bt n 40, bt n 32, bt n 24, bt n 16, bt n 8, b0 n])] rfl ⟨rfl, rfl⟩ ((arr_ent 1 [0, 0] _).trans (bufP_shut (ls := ls ++ [Value.int IntKind.u8 69, bt n 56, bt n 48, bt n 40, bt n 32, bt n 24, bt n 16, bt n 8, b0 n]) a c (by simp)))
  rw [if_neg h0']
  refine c_condF (by rw [show decide ((n : Int) < (-72057594037927936)) = false from decide_eq_false (by omega)]; rfl) ?_
  refine G.keep [(0, _), (1, _)] ⟨rfl, rfl, trivial⟩ ?_
  repeat (first | refine wW ?_ | intro b)
  by_cases h1' : n < (-281474976710656)
  · refine c_condT (by rw [show decide ((n : Int) < (-281474976710656)) = true from decide_eq_true (by omega)]; rfl) ?_
    rw [if_pos h1']
    repeat (first | refine wW ?_ | intro b)
    (refine l_plain rfl (s_append (i := 2) rfl rfl rfl (Src.some _ _ _ _ _ rfl (rdn_all 0 rfl)) rfl rfl (Nat.mul_one _).symm rfl (by omega) (by unfold maxLen; omega) rfl ?_); intro a c)
    repeat (first | refine wW ?_ | intro b)
    exact e_nor0 [bufP pb (ls ++ [Value.int IntKind.u8 70, bt n 48, bt n 40, bt n 32, bt n 24, bt n 16, bt n 8, b0 n])] rfl ⟨rfl, rfl⟩ ((arr_ent 1 [0, 0] _).trans (bufP_shut (ls := ls ++ [Value.int IntKind.u8 70, bt n 48, bt n 40, bt n 32, bt n 24, bt n 16, bt n 8, b0 n]) a c (by simp)))
  rw [if_neg h1']
  refine c_condF (by rw [show decide ((n : Int) < (-281474976710656)) = false from decide_eq_false (by omega)]; rfl) ?_
  refine G.keep [(0, _), (1, _)] ⟨rfl, rfl, trivial⟩ ?_
  repeat (first | refine wW ?_ | intro b)
  by_cases h2' : n < (-1099511627776)
  · refine c_condT (by rw [show decide ((n : Int) < (-1099511627776)) = true from decide_eq_true (by omega)]; rfl) ?_
    rw [if_pos h2']
    repeat (first | refine wW ?_ | intro b)
    (refine l_plain rfl (s_append (i := 2) rfl rfl rfl (Src.some _ _ _ _ _ rfl (rdn_all 0 rfl)) rfl rfl (Nat.mul_one _).symm rfl (by omega) (by unfold maxLen; omega) rfl ?_); intro a c)
    repeat (first | refine wW ?_ | intro b)
    exact e_nor0 [bufP pb (ls ++ [Value.int IntKind.u8 71, bt n 40, bt n 32, bt n 24, bt n 16, bt n 8, b0 n])] rfl ⟨rfl, rfl⟩ ((arr_ent 1 [0, 0] _).trans (bufP_shut (ls := ls ++ [Value.int IntKind.u8 71, bt n 40, bt n 32, bt n 24, bt n 16, bt n 8, b0 n]) a c (by simp)))
  rw [if_neg h2']
  refine c_condF (by rw [show decide ((n : Int) < (-1099511627776)) = false from decide_eq_false (by omega)]; rfl) ?_
  refine G.keep [(0, _), (1, _)] ⟨rfl, rfl, trivial⟩ ?_
  repeat (first | refine wW ?_ | intro b)
  by_cases h3' : n < (-4294967296)
  · refine c_condT (by rw [show decide ((n : Int) < (-4294967296)) = true from decide_eq_true (by omega)]; rfl) ?_
    rw [if_pos h3']
    repeat (first | refine wW ?_ | intro b)
    (refine l_plain rfl (s_append (i := 2) rfl rfl rfl (Src.some _ _ _ _ _ rfl (rdn_all 0 rfl)) rfl rfl (Nat.mul_one _).symm rfl (by omega) (by unfold maxLen; omega) rfl ?_); intro a c)
    repeat (first | refine wW ?_ | intro b)
    exact e_nor0 [bufP pb (ls ++ [Value.int IntKind.u8 72, bt n 32, bt n 24, bt n 16, bt n 8, b0 n])] rfl ⟨rfl, rfl⟩ ((arr_ent 1 [0, 0] _).trans (bufP_shut (ls := ls ++ [Value.int IntKind.u8 72, bt n 32, bt n 24, bt n 16, bt n 8, b0 n]) a c (by simp)))
  rw [if_neg h3']
  refine c_condF (by rw [show decide ((n : Int) < (-4294967296)) = false from decide_eq_false (by omega)]; rfl) ?_
  refine G.keep [(0, _), (1, _)] ⟨rfl, rfl, trivial⟩ ?_
  repeat (first | refine wW ?_ | intro b)
  by_cases h4' : n < (-16777216)
  · refine c_condT (by rw [show decide ((n : Int) < (-16777216)) = true from decide_eq_true (by omega)]; rfl) ?_
    rw [if_pos h4']
    repeat (first | refine wW ?_ | intro b)
    (refine l_plain rfl (s_append (i := 2) rfl rfl rfl (Src.some _ _ _ _ _ rfl (rdn_all 0 rfl)) rfl rfl (Nat.mul_one _).symm rfl (by omega) (by unfold maxLen; omega) rfl ?_); intro a c)
    repeat (first | refine wW ?_ | intro b)
    exact e_nor0 [bufP pb (ls ++ [Value.int IntKind.u8 73, bt n 24, bt n 16, bt n 8, b0 n])] rfl ⟨rfl, rfl⟩ ((arr_ent 1 [0, 0] _).trans (bufP_shut (ls := ls ++ [Value.int IntKind.u8 73, bt n 24, bt n 16, bt n 8, b0 n]) a c (by simp)))
  rw [if_neg h4']
  refine c_condF (by rw [show decide ((n : Int) < (-16777216)) = false from decide_eq_false (by omega)]; rfl) ?_
  refine G.keep [(0, _), (1, _)] ⟨rfl, rfl, trivial⟩ ?_
  repeat (first | refine wW ?_ | intro b)
  by_cases h5' : n < (-65536)
  · refine c_condT (by rw [show decide ((n : Int) < (-65536)) = true from decide_eq_true (by omega)]; rfl) ?_
    rw [if_pos h5']
    repeat (first | refine wW ?_ | intro b)
    (refine l_plain rfl (s_append (i := 2) rfl rfl rfl (Src.some _ _ _ _ _ rfl (rdn_all 0 rfl)) rfl rfl (Nat.mul_one _).symm rfl (by omega) (by unfold maxLen; omega) rfl ?_); intro a c)
    repeat (first | refine wW ?_ | intro b)
    exact e_nor0 [bufP pb (ls ++ [Value.int IntKind.u8 74, bt n 16, bt n 8, b0 n])] rfl ⟨rfl, rfl⟩ ((arr_ent 1 [0, 0] _).trans (bufP_shut (ls := ls ++ [Value.int IntKind.u8 74, bt n 16, bt n 8, b0 n]) a c (by simp)))
  rw [if_neg h5']
  refine c_condF (by rw [show decide ((n : Int) < (-65536)) = false from decide_eq_false (by omega)]; rfl) ?_
  refine G.keep [(0, _), (1, _)] ⟨rfl, rfl, trivial⟩ ?_
  repeat (first | refine wW ?_ | intro b)
  by_cases h6' : n < (-256)
  · refine c_condT (by rw [show decide ((n : Int) < (-256)) = true from decide_eq_true (by omega)]; rfl) ?_
    rw [if_pos h6']
    repeat (first | refine wW ?_ | intro b)
    (refine l_plain rfl (s_append (i := 2) rfl rfl rfl (Src.some _ _ _ _ _ rfl (rdn_all 0 rfl)) rfl rfl (Nat.mul_one _).symm rfl (by omega) (by unfold maxLen; omega) rfl ?_); intro a c)
    repeat (first | refine wW ?_ | intro b)
    exact e_nor0 [bufP pb (ls ++ [Value.int IntKind.u8 75, bt n 8, b0 n])] rfl ⟨rfl, rfl⟩ ((arr_ent 1 [0, 0] _).trans (bufP_shut (ls := ls ++ [Value.int IntKind.u8 75, bt n 8, b0 n]) a c (by simp)))
  rw [if_neg h6']
  refine c_condF (by rw [show decide ((n : Int) < (-256)) = false from decide_eq_false (by omega)]; rfl) ?_
  refine G.keep [(0, _), (1, _)] ⟨rfl, rfl, trivial⟩ ?_
  repeat (first | refine wW ?_ | intro b)
  by_cases h7' : n < 0
  · refine c_condT (by rw [show decide ((n : Int) < 0) = true from decide_eq_true (by omega)]; rfl) ?_
    rw [if_pos h7']
    repeat (first | refine wW ?_ | intro b)
    (refine l_plain rfl (s_append (i := 2) rfl rfl rfl (Src.some _ _ _ _ _ rfl (rdn_all 0 rfl)) rfl rfl (Nat.mul_one _).symm rfl (by omega) (by unfold maxLen; omega) rfl ?_); intro a c)
    repeat (first | refine wW ?_ | intro b)
    exact e_nor0 [bufP pb (ls ++ [Value.int IntKind.u8 76, b0 n])] rfl ⟨rfl, rfl⟩ ((arr_ent 1 [0, 0] _).trans (bufP_shut (ls := ls ++ [Value.int IntKind.u8 76, b0 n]) a c (by simp)))
  rw [if_neg h7']
  refine c_condF (by rw [show decide ((n : Int) < 0) = false from decide_eq_false (by omega)]; rfl) ?_
  refine G.keep [(0, _), (1, _)] ⟨rfl, rfl, trivial⟩ ?_
  repeat (first | refine wW ?_ | intro b)
  by_cases h8' : n ≤ 170
  · refine c_condT (by rw [show decide ((n : Int) ≤ 170) = true from decide_eq_true (by omega)]; rfl) ?_
    rw [if_pos h8']
    repeat (first | refine wW ?_ | intro b)
    (refine l_plain rfl (s_append (i := 2) rfl rfl rfl (Src.some _ _ _ _ _ rfl (rdn_all 0 rfl)) rfl rfl (Nat.mul_one _).symm rfl (by omega) (by unfold maxLen; omega) rfl ?_); intro a c)
    repeat (first | refine wW ?_ | intro b)
    exact e_nor0 [bufP pb (ls ++ [b0 (85 + n)])] rfl ⟨rfl, rfl⟩ ((arr_ent 1 [0, 0] _).trans (bufP_shut (ls := ls ++ [b0 (85 + n)]) a c (by simp)))
  rw [if_neg h8']
  refine c_condF (by rw [show decide ((n : Int) ≤ 170) = false from decide_eq_false (by omega)]; rfl) ?_
  refine G.keep [(0, _), (1, _)] ⟨rfl, rfl, trivial⟩ ?_
  repeat (first | refine wW ?_ | intro b)
  by_cases h9' : n ≤ 255
  · refine c_condT (by rw [show decide ((n : Int) ≤ 255) = true from decide_eq_true (by omega)]; rfl) ?_
    rw [if_pos h9']
    repeat (first | refine wW ?_ | intro b)
    (refine l_plain rfl (s_append (i := 2) rfl rfl rfl (Src.some _ _ _ _ _ rfl (rdn_all 0 rfl)) rfl rfl (Nat.mul_one _).symm rfl (by omega) (by unfold maxLen; omega) rfl ?_); intro a c)
    repeat (first | refine wW ?_ | intro b)
    exact e_nor0 [bufP pb (ls ++ [Value.int IntKind.u8 77, b0 n])] rfl ⟨rfl, rfl⟩ ((arr_ent 1 [0, 0] _).trans (bufP_shut (ls := ls ++ [Value.int IntKind.u8 77, b0 n]) a c (by simp)))
  rw [if_neg h9']
  refine c_condF (by rw [show decide ((n : Int) ≤ 255) = false from decide_eq_false (by omega)]; rfl) ?_
  refine G.keep [(0, _), (1, _)] ⟨rfl, rfl, trivial⟩ ?_
  repeat (first | refine wW ?_ | intro b)
  by_cases h10' : n ≤ 65535
  · refine c_condT (by rw [show decide ((n : Int) ≤ 65535) = true from decide_eq_true (by omega)]; rfl) ?_
    rw [if_pos h10']
    repeat (first | refine wW ?_ | intro b)
    (refine l_plain rfl (s_append (i := 2) rfl rfl rfl (Src.some _ _ _ _ _ rfl (rdn_all 0 rfl)) rfl rfl (Nat.mul_one _).symm rfl (by omega) (by unfold maxLen; omega) rfl ?_); intro a c)
    repeat (first | refine wW ?_ | intro b)
    exact e_nor0 [bufP pb (ls ++ [Value.int IntKind.u8 78, bt n 8, b0 n])] rfl ⟨rfl, rfl⟩ ((arr_ent 1 [0, 0] _).trans (bufP_shut (ls := ls ++ [Value.int IntKind.u8 78, bt n 8, b0 n]) a c (by simp)))
  rw [if_neg h10']
  refine c_condF (by rw [show decide ((n : Int) ≤ 65535) = false from decide_eq_false (by omega)]; rfl) ?_
  refine G.keep [(0, _), (1, _)] ⟨rfl, rfl, trivial⟩ ?_
  repeat (first | refine wW ?_ | intro b)
  by_cases h11' : n ≤ 16777215
  · refine c_condT (by rw [show decide ((n : Int) ≤ 16777215) = true from decide_eq_true (by omega)]; rfl) ?_
    rw [if_pos h11']
    repeat (first | refine wW ?_ | intro b)
    (refine l_plain rfl (s_append (i := 2) rfl rfl rfl (Src.some _ _ _ _ _ rfl (rdn_all 0 rfl)) rfl rfl (Nat.mul_one _).symm rfl (by omega) (by unfold maxLen; omega) rfl ?_); intro a c)
    repeat (first | refine wW ?_ | intro b)
    exact e_nor0 [bufP pb (ls ++ [Value.int IntKind.u8 79, bt n 16, bt n 8, b0 n])] rfl ⟨rfl, rfl⟩ ((arr_ent 1 [0, 0] _).trans (bufP_shut (ls := ls ++ [Value.int IntKind.u8 79, bt n 16, bt n 8, b0 n]) a c (by simp)))
  rw [if_neg h11']
  refine c_condF (by rw [show decide ((n : Int) ≤ 16777215) = false from decide_eq_false (by omega)]; rfl) ?_
  refine G.keep [(0, _), (1, _)] ⟨rfl, rfl, trivial⟩ ?_
  repeat (first | refine wW ?_ | intro b)
  by_cases h12' : n ≤ 4294967295
  · refine c_condT (by rw [show decide ((n : Int) ≤ 4294967295) = true from decide_eq_true (by omega)]; rfl) ?_
    rw [if_pos h12']
    repeat (first | refine wW ?_ | intro b)
    (refine l_plain rfl (s_append (i := 2) rfl rfl rfl (Src.some _ _ _ _ _ rfl (rdn_all 0 rfl)) rfl rfl (Nat.mul_one _).symm rfl (by omega) (by unfold maxLen; omega) rfl ?_); intro a c)
    repeat (first | refine wW ?_ | intro b)
    exact e_nor0 [bufP pb (ls ++ [Value.int IntKind.u8 80, bt n 24, bt n 16, bt n 8, b0 n])] rfl ⟨rfl, rfl⟩ ((arr_ent 1 [0, 0] _).trans (bufP_shut (ls := ls ++ [Value.int IntKind.u8 80, bt n 24, bt n 16, bt n 8, b0 n]) a c (by simp)))
  rw [if_neg h12']
  refine c_condF (by rw [show decide ((n : Int) ≤ 4294967295) = false from decide_eq_false (by omega)]; rfl) ?_
  refine G.keep [(0, _), (1, _)] ⟨rfl, rfl, trivial⟩ ?_
  repeat (first | refine wW ?_ | intro b)
  by_cases h13' : n ≤ 1099511627775
  · refine c_condT (by rw [show decide ((n : Int) ≤ 1099511627775) = true from decide_eq_true (by omega)]; rfl) ?_
    rw [if_pos h13']
    repeat (first | refine wW ?_ | intro b)
    (refine l_plain rfl (s_append (i := 2) rfl rfl rfl (Src.some _ _ _ _ _ rfl (rdn_all 0 rfl)) rfl rfl (Nat.mul_one _).symm rfl (by omega) (by unfold maxLen; omega) rfl ?_); intro a c)
    repeat (first | refine wW ?_ | intro b)
    exact e_nor0 [bufP pb (ls ++ [Value.int IntKind.u8 81, bt n 32, bt n 24, bt n 16, bt n 8, b0 n])] rfl ⟨rfl, rfl⟩ ((arr_ent 1 [0, 0] _).trans (bufP_shut (ls := ls ++ [Value.int IntKind.u8 81, bt n 32, bt n 24, bt n 16, bt n 8, b0 n]) a c (by simp)))
  rw [if_neg h13']
  refine c_condF (by rw [show decide ((n : Int) ≤ 1099511627775) = false from decide_eq_false (by omega)]; rfl) ?_
  refine G.keep [(0, _), (1, _)] ⟨rfl, rfl, trivial⟩ ?_
  repeat (first | refine wW ?_ | intro b)
  by_cases h14' : n ≤ 281474976710655
  · refine c_condT (by rw [show decide ((n : Int) ≤ 281474976710655) = true from decide_eq_true (by omega)]; rfl) ?_
    rw [if_pos h14']
    repeat (first | refine wW ?_ | intro b)
    (refine l_plain rfl (s_append (i := 2) rfl rfl rfl (Src.some _ _ _ _ _ rfl (rdn_all 0 rfl)) rfl rfl (Nat.mul_one _).symm rfl (by omega) (by unfold maxLen; omega) rfl ?_); intro a c)
    repeat (first | refine wW ?_ | intro b)
    exact e_nor0 [bufP pb (ls ++ [Value.int IntKind.u8 82, bt n 40, bt n 32, bt n 24, bt n 16, bt n 8, b0 n])] rfl ⟨rfl, rfl⟩ ((arr_ent 1 [0, 0] _).trans (bufP_shut (ls := ls ++ [Value.int IntKind.u8 82, bt n 40, bt n 32, bt n 24, bt n 16, bt n 8, b0 n]) a c (by simp)))
  rw [if_neg h14']
  refine c_condF (by rw [show decide ((n : Int) ≤ 281474976710655) = false from decide_eq_false (by omega)]; rfl) ?_
  refine G.keep [(0, _), (1, _)] ⟨rfl, rfl, trivial⟩ ?_
  repeat (first | refine wW ?_ | intro b)
  by_cases h15' : n ≤ 72057594037927935
  · refine c_condT (by rw [show decide ((n : Int) ≤ 72057594037927935) = true from decide_eq_true (by omega)]; rfl) ?_
    rw [if_pos h15']
    repeat (first | refine wW ?_ | intro b)
    (refine l_plain rfl (s_append (i := 2) rfl rfl rfl (Src.some _ _ _ _ _ rfl (rdn_all 0 rfl)) rfl rfl (Nat.mul_one _).symm rfl (by omega) (by unfold maxLen; omega) rfl ?_); intro a c)
    repeat (first | refine wW ?_ | intro b)
    exact e_nor0 [bufP pb (ls ++ [Value.int IntKind.u8 83, bt n 48, bt n 40, bt n 32, bt n 24, bt n 16, bt n 8, b0 n])] rfl ⟨rfl, rfl⟩ ((arr_ent 1 [0, 0] _).trans (bufP_shut (ls := ls ++ [Value.int IntKind.u8 83, bt n 48, bt n 40, bt n 32, bt n 24, bt n 16, bt n 8, b0 n]) a c (by simp)))
  rw [if_neg h15']
  refine c_condF (by rw [show decide ((n : Int) ≤ 72057594037927935) = false from decide_eq_false (by omega)]; rfl) ?_
  refine G.keep [(0, _), (1, _)] ⟨rfl, rfl, trivial⟩ ?_
  repeat (first | refine wW ?_ | intro b)
  · refine c_condT (by rw [show decide ((n : Int) ≤ 9223372036854775807) = true from decide_eq_true (by omega)]; rfl) ?_
    repeat (first | refine wW ?_ | intro b)
    (refine l_plain rfl (s_append (i := 2) rfl rfl rfl (Src.some _ _ _ _ _ rfl (rdn_all 0 rfl)) rfl rfl (Nat.mul_one _).symm rfl (by omega) (by unfold maxLen; omega) rfl ?_); intro a c)
    repeat (first | refine wW ?_ | intro b)
    exact e_nor0 [bufP pb (ls ++ [Value.int IntKind.u8 84, bt n 56, bt n 48, bt n 40, bt n 32, bt n 24, bt n 16, bt n 8, b0 n])] rfl ⟨rfl, rfl⟩ ((arr_ent 1 [0, 0] _).trans (bufP_shut (ls := ls ++ [Value.int IntKind.u8 84, bt n 56, bt n 48, bt n 40, bt n 32, bt n 24, bt n 16, bt n 8, b0 n]) a c (by simp)))
end Go.Proofs.YtfebpbflpdppiaaDoor
