/- The walk over floating. -/

import Derived.Test.YtfebpbflpdppiaaDoorD10
namespace Go.Proofs.YtfebpbflpdppiaaDoor
open Go Go.Sl
set_option maxRecDepth 100000
attribute [local irreducible] wpList Code.wp Exit.then Exit.inBlock bodyPost RunS RunV G St Ct Sat Ent At Rd GQ QL wpAny wpOp wpQuiet slP Sl.ex sep
def flo (u : Nat) : List Value × Bool :=
  if u / 4503599627370496 &&& 2047 = 2047 then (reV (if u / 9223372036854775808 = 1 then -1 else 1) 0 0 true, decide (((u &&& 4503599627370495 : Nat) : Int) = 0))
  else if u / 4503599627370496 &&& 2047 = 0 then
    if u &&& 4503599627370495 = 0 then (reV 0 0 0 false, true) else (reV (if u / 9223372036854775808 = 1 then -1 else 1) (u &&& 4503599627370495) (1 - 1075) false, true)
  else (reV (if u / 9223372036854775808 = 1 then -1 else 1) (u &&& 4503599627370495 ||| 4503599627370496) (((u / 4503599627370496 &&& 2047 : Nat) : Int) - 1075) false, true)
set_option maxHeartbeats 4000000 in
theorem floating_c (u : Nat) (hu : u < 18446744073709551616) : Ct Tryd.prog 63 #[.int .u64 (u : Nat)] [] (fun v B => v = .tuple #[.agg (flo u).1.toArray, .bool (flo u).2] ∧ B = []) nev := by
  refine Ct.of Tryd.func63 rfl Tryd.ntmps63 rfl fun m F => ?_
  have hm0 : u &&& 4503599627370495 ≤ 4503599627370495 := Nat.and_le_right
  have he0 : u / 4503599627370496 &&& 2047 ≤ 2047 := Nat.and_le_right
  repeat (first | refine wWD ?_ | intro b)
  refine l_plain rfl ?_
  apply s_val rfl rfl
  · exact RunS.v (r_andN (k := .u64) (a := u) (b := 4503599627370495) rfl rfl (by rw [p64]; omega) (by decide) (by rw [max_u64]; omega))
  repeat (first | refine wWD ?_ | intro b)
  rw [show ((u : Nat) : Int).fdiv (2 ^ min (Int.toNat 52) IntKind.u64.bits) = ((u / 4503599627370496 : Nat) : Int) from fdivN u 52]
  refine l_plain rfl ?_
  apply s_val rfl rfl
  · exact RunS.v (r_andN (k := .u64) (a := u / 4503599627370496) (b := 2047) rfl rfl (by rw [p64]; omega) (by decide) (by rw [max_u64]; omega))
  repeat (first | refine wWD ?_ | intro b)
  rw [show IntKind.i64.wrap ((u / 4503599627370496 &&& 2047 : Nat) : Int) = ((u / 4503599627370496 &&& 2047 : Nat) : Int) from wrap_nn (by rw [max_i64]; omega)]
  obtain ⟨m0, hm⟩ : ∃ m0, m0 = u &&& 4503599627370495 := ⟨_, rfl⟩
  obtain ⟨e0, he⟩ : ∃ e0, e0 = u / 4503599627370496 &&& 2047 := ⟨_, rfl⟩
  unfold flo
  rw [← hm] at hm0
  rw [← he] at he0
  rw [← hm, ← he]
  refine l_plain rfl ?_
  apply s_val rfl rfl
  · exact RunS.v (r_build (cells := (reV 1 0 0 false).toArray) rfl (by kernel_rfl))
  repeat (first | refine wWD ?_ | intro b)
  rw [show ((u : Nat) : Int).fdiv (2 ^ min (Int.toNat 63) IntKind.u64.bits) = ((u / 9223372036854775808 : Nat) : Int) from fdivN u 63]
  rename_i b2
  show G 39 [] _ m (blk b (cl (reV 1 0 0 false) 88) :: blk b2 (cl (reV 0 0 0 false) 88) :: F) _
  refine c_cond rfl (fun hs => ?_) (fun hs => ?_)
  · have hs : u / 9223372036854775808 = 1 := by have := of_decide_eq_true hs; omega
    repeat (first | refine wWD ?_ | intro b)
    refine c_cond rfl (fun h => ?_) (fun h => ?_)
    · have h : e0 = 2047 := by have := of_decide_eq_true h; omega
      repeat (first | refine wWD ?_ | intro b)
      exact e_retAT (vs := reV (-1) 0 0 true) [] rfl rfl rfl rfl (rdn_all 0 rfl) rfl ⟨by rw [if_pos h, if_pos hs], rfl⟩ (arr_ent 2 [] _)
    have h : e0 ≠ 2047 := by have := of_decide_eq_false h; omega
    rw [if_neg h]
    repeat (first | refine wWD ?_ | intro b)
    refine c_cond rfl (fun h0 => ?_) (fun h0 => ?_)
    · have h0 : e0 = 0 := by have := of_decide_eq_true h0; omega
      rw [if_pos h0]
      repeat (first | refine wWD ?_ | intro b)
      refine c_cond rfl (fun h1 => ?_) (fun h1 => ?_)
      · have h1 : m0 = 0 := by have := of_decide_eq_true h1; omega
        repeat (first | refine wWD ?_ | intro b)
        refine l_plain rfl ?_
        apply s_val rfl rfl
        · exact RunS.v (r_build (cells := (reV 0 0 0 false).toArray) rfl (by kernel_rfl))
        repeat (first | refine wWD ?_ | intro b)
        exact e_retAT (vs := reV 0 0 0 false) [] rfl rfl rfl rfl (rdn_all 0 rfl) rfl ⟨by rw [if_pos h1], rfl⟩ (arr_ent 2 [] _)
      · have h1 : m0 ≠ 0 := by have := of_decide_eq_false h1; omega
        repeat (first | refine wWD ?_ | intro b)
        exact e_retAT (vs := reV (-1) m0 (1 - 1075) false) [] rfl rfl rfl rfl (rdn_all 0 rfl) rfl ⟨by rw [if_neg h1, if_pos hs], rfl⟩ (arr_ent 2 [] _)
    have h0 : e0 ≠ 0 := by have := of_decide_eq_false h0; omega
    rw [if_neg h0]
    have hor : m0 ||| 4503599627370496 < 2 ^ 53 := Nat.or_lt_two_pow (by omega) (by decide)
    have hor2 : 4503599627370496 ≤ m0 ||| 4503599627370496 := Nat.right_le_or
    repeat (first | refine wWD ?_ | intro b)
    refine l_plain rfl ?_
    apply s_val rfl rfl
    · exact RunS.v (r_orN (k := .u64) (a := m0) (b := 4503599627370496) rfl rfl (by rw [p64]; omega) (by decide) (by rw [max_u64]; omega))
    repeat (first | refine wWD ?_ | intro b)
    refine c_condF (by rw [show decide (((m0 ||| 4503599627370496 : Nat) : Int) = 0) = false from decide_eq_false (by omega)]; rfl) ?_
    repeat (first | refine wWD ?_ | intro b)
    exact e_retAT (vs := reV (-1) (m0 ||| 4503599627370496) ((e0 : Int) - 1075) false) [] rfl rfl rfl rfl (rdn_all 0 rfl) rfl ⟨by rw [if_pos hs], rfl⟩ (arr_ent 2 [] _)
  · have hs : u / 9223372036854775808 ≠ 1 := by have := of_decide_eq_false hs; omega
    repeat (first | refine wWD ?_ | intro b)
    refine c_cond rfl (fun h => ?_) (fun h => ?_)
    · have h : e0 = 2047 := by have := of_decide_eq_true h; omega
      repeat (first | refine wWD ?_ | intro b)
      exact e_retAT (vs := reV 1 0 0 true) [] rfl rfl rfl rfl (rdn_all 0 rfl) rfl ⟨by rw [if_pos h, if_neg hs], rfl⟩ (arr_ent 2 [] _)
    have h : e0 ≠ 2047 := by have := of_decide_eq_false h; omega
    rw [if_neg h]
    repeat (first | refine wWD ?_ | intro b)
    refine c_cond rfl (fun h0 => ?_) (fun h0 => ?_)
    · have h0 : e0 = 0 := by have := of_decide_eq_true h0; omega
      rw [if_pos h0]
      repeat (first | refine wWD ?_ | intro b)
      refine c_cond rfl (fun h1 => ?_) (fun h1 => ?_)
      · have h1 : m0 = 0 := by have := of_decide_eq_true h1; omega
        repeat (first | refine wWD ?_ | intro b)
        refine l_plain rfl ?_
        apply s_val rfl rfl
        · exact RunS.v (r_build (cells := (reV 0 0 0 false).toArray) rfl (by kernel_rfl))
        repeat (first | refine wWD ?_ | intro b)
        exact e_retAT (vs := reV 0 0 0 false) [] rfl rfl rfl rfl (rdn_all 0 rfl) rfl ⟨by rw [if_pos h1], rfl⟩ (arr_ent 2 [] _)
      · have h1 : m0 ≠ 0 := by have := of_decide_eq_false h1; omega
        repeat (first | refine wWD ?_ | intro b)
        exact e_retAT (vs := reV 1 m0 (1 - 1075) false) [] rfl rfl rfl rfl (rdn_all 0 rfl) rfl ⟨by rw [if_neg h1, if_neg hs], rfl⟩ (arr_ent 2 [] _)
    have h0 : e0 ≠ 0 := by have := of_decide_eq_false h0; omega
    rw [if_neg h0]
    have hor : m0 ||| 4503599627370496 < 2 ^ 53 := Nat.or_lt_two_pow (by omega) (by decide)
    have hor2 : 4503599627370496 ≤ m0 ||| 4503599627370496 := Nat.right_le_or
    repeat (first | refine wWD ?_ | intro b)
    refine l_plain rfl ?_
    apply s_val rfl rfl
    · exact RunS.v (r_orN (k := .u64) (a := m0) (b := 4503599627370496) rfl rfl (by rw [p64]; omega) (by decide) (by rw [max_u64]; omega))
    repeat (first | refine wWD ?_ | intro b)
    refine c_condF (by rw [show decide (((m0 ||| 4503599627370496 : Nat) : Int) = 0) = false from decide_eq_false (by omega)]; rfl) ?_
    repeat (first | refine wWD ?_ | intro b)
    exact e_retAT (vs := reV 1 (m0 ||| 4503599627370496) ((e0 : Int) - 1075) false) [] rfl rfl rfl rfl (rdn_all 0 rfl) rfl ⟨by rw [if_neg hs], rfl⟩ (arr_ent 2 [] _)
end Go.Proofs.YtfebpbflpdppiaaDoor
