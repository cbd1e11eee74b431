/- Walks over the comparing of a number with itself. -/

import Derived.Test.YtfebpbflpdppiaaDoorD10b
namespace Go.Proofs.YtfebpbflpdppiaaDoor
open Go Go.Sl
set_option maxRecDepth 100000
attribute [local irreducible] wpList Code.wp Exit.then Exit.inBlock bodyPost RunS RunV G St Ct Sat Ent At Rd GQ QL wpAny wpOp wpQuiet slP Sl.ex sep
theorem places_c (n : Nat) (hn : n < 2 ^ 64) : Ct Tryd.prog 67 #[.int .u64 (n : Nat)] [] (fun v B => v = .int .i64 (bl n) ∧ B = []) nev := by
  refine Ct.of Tryd.func67 rfl Tryd.ntmps67 rfl fun m F => ?_
  repeat (first | refine wWD ?_ | intro b)
  refine c_loop (α := Nat × Nat) (fun p => [(0, .int .u64 p.1), (3, .int .i64 p.2)]) (fun _ => F) (fun p => p.1 < 2 ^ 64 ∧ p.2 + bl p.1 = bl n) (fun p => p.1) (n, 0) ⟨hn, by simp⟩ ⟨rfl, rfl, trivial⟩ (Ent.refl _) ?_
  rintro ⟨a, k⟩ ⟨ha, hk⟩
  have hb := bl_le 64 n hn
  dsimp only at ha hk ⊢
  repeat (first | refine wWD ?_ | intro b)
  refine c_cond rfl (fun h => ?_) (fun h => ?_)
  · repeat (first | refine wWD ?_ | intro b)
    have h0 : 0 < a := by have := of_decide_eq_true h; omega
    have hbl := bl_pos h0
    exact at_intro (a / 2, k + 1) ⟨⟨by dsimp only; omega, by dsimp only; omega⟩, by dsimp only; omega⟩ ⟨by rw [shr1]; rfl, rfl, trivial⟩ (Ent.refl _)
  · repeat (first | refine wWD ?_ | intro b)
    have h0 : a = 0 := by have := of_decide_eq_false h; omega
    subst h0
    rw [bl_zero] at hk
    exact e_ret1 [] rfl rfl ⟨by rw [← hk]; rfl, rfl⟩ (Ent.refl _)
/-- a real that can be compared -/
def RL (l : List Value) : Prop := ∃ sg mm e inf, l = reV sg mm e inf ∧ mm < 2 ^ 64 ∧ -10000 ≤ e ∧ e ≤ 10000 ∧ -1 ≤ sg ∧ sg ≤ 1
theorem whl_RL (neg : Bool) (n : Nat) (h : n < 2 ^ 64) : RL (whl neg n) := by
  unfold whl
  split
  · exact ⟨0, 0, 0, false, rfl, by omega, by omega, by omega, by omega, by omega⟩
  · split
    · exact ⟨-1, n, 0, false, rfl, h, by omega, by omega, by omega, by omega⟩
    · exact ⟨1, n, 0, false, rfl, h, by omega, by omega, by omega, by omega⟩
theorem flo_RL (u : Nat) : RL (flo u).1 := by
  have hm0 : u &&& 4503599627370495 ≤ 4503599627370495 := Nat.and_le_right
  have he0 : u / 4503599627370496 &&& 2047 ≤ 2047 := Nat.and_le_right
  have hor : u &&& 4503599627370495 ||| 4503599627370496 < 2 ^ 53 := Nat.or_lt_two_pow (by omega) (by decide)
  unfold flo
  split
  · refine ⟨_, _, _, _, rfl, ?_, ?_, ?_, ?_, ?_⟩ <;> (try split) <;> omega
  · split
    · split
      · exact ⟨0, 0, 0, false, rfl, by omega, by omega, by omega, by omega, by omega⟩
      · refine ⟨_, _, _, _, rfl, ?_, ?_, ?_, ?_, ?_⟩ <;> (try split) <;> omega
    · refine ⟨_, _, _, _, rfl, ?_, ?_, ?_, ?_, ?_⟩ <;> (try split) <;> omega
set_option maxHeartbeats 4000000 in
theorem amounts_c (sg : Int) (mm : Nat) (e : Int) (inf : Bool) (hm : mm < 2 ^ 64) (h1 : -10000 ≤ e) (h2 : e ≤ 10000) : Ct Tryd.prog 66 #[.agg (reV sg mm e inf).toArray, .agg (reV sg mm e inf).toArray] [] (fun v B => v = .int .i64 0 ∧ B = []) nev := by
  refine Ct.of Tryd.func66 rfl Tryd.ntmps66 rfl fun m F => ?_
  have hbl := bl_le 64 mm hm
  cases inf
  · repeat (first | refine wWD ?_ | intro b)
    refine qt_call rfl rfl (places_c mm hm) [] rfl (Ent.refl _) ?_
    repeat (first | refine wWD ?_ | intro b)
    refine qt_call rfl rfl (places_c mm hm) [] rfl (Ent.refl _) ?_
    repeat (first | refine wWD ?_ | intro b)
    rw [show decide ((bl mm : Int) + e = (bl mm : Int) + e) = true from decide_eq_true rfl]
    repeat (first | refine wWD ?_ | intro b)
    refine qt_call rfl rfl (places_c mm hm) [] rfl (Ent.refl _) ?_
    repeat (first | refine wWD ?_ | intro b)
    apply qt_val rfl rfl rfl
    · exact RunS.v (r_shl rfl rfl (by omega))
    repeat (first | refine wWD ?_ | intro b)
    refine qt_call rfl rfl (places_c mm hm) [] rfl (Ent.refl _) ?_
    repeat (first | refine wWD ?_ | intro b)
    apply qt_val rfl rfl rfl
    · exact RunS.v (r_shl rfl rfl (by omega))
    generalize IntKind.u64.wrap _ = X
    repeat (first | refine wWD ?_ | intro b)
    rw [show decide (X < X) = false from decide_eq_false (by omega)]
    refine l_plain rfl (s_call rfl rfl (sign_c _ _) [] rfl ?_ (fun _ _ h => h.elim))
    rintro _ _ ⟨rfl, rfl⟩
    repeat (first | refine wWD ?_ | intro b)
    first | exact e_ret1 [] rfl rfl ⟨rfl, rfl⟩ (arr_ent 0 [] _) | exact e_ret1 [] rfl rfl ⟨rfl, rfl⟩ (arr_ent 1 [] _) | exact e_ret1 [] rfl rfl ⟨rfl, rfl⟩ (arr_ent 2 [] _) | exact e_ret1 [] rfl rfl ⟨rfl, rfl⟩ (arr_ent 3 [] _) | exact e_ret1 [] rfl rfl ⟨rfl, rfl⟩ (arr_ent 4 [] _) | exact e_ret1 [] rfl rfl ⟨rfl, rfl⟩ (arr_ent 5 [] _) | exact e_ret1 [] rfl rfl ⟨rfl, rfl⟩ (arr_ent 6 [] _)
  · repeat (first | refine wWD ?_ | intro b)
    first | exact e_ret1 [] rfl rfl ⟨rfl, rfl⟩ (arr_ent 0 [] _) | exact e_ret1 [] rfl rfl ⟨rfl, rfl⟩ (arr_ent 1 [] _) | exact e_ret1 [] rfl rfl ⟨rfl, rfl⟩ (arr_ent 2 [] _) | exact e_ret1 [] rfl rfl ⟨rfl, rfl⟩ (arr_ent 3 [] _) | exact e_ret1 [] rfl rfl ⟨rfl, rfl⟩ (arr_ent 4 [] _) | exact e_ret1 [] rfl rfl ⟨rfl, rfl⟩ (arr_ent 5 [] _) | exact e_ret1 [] rfl rfl ⟨rfl, rfl⟩ (arr_ent 6 [] _)
theorem amounts2_c (sg : Int) (mm : Nat) (e : Int) (inf : Bool) (hm : mm < 2 ^ 64) (h1 : -10000 ≤ e) (h2 : e ≤ 10000) : Ct Tryd.prog 64 #[.agg (reV sg mm e inf).toArray, .agg (reV sg mm e inf).toArray] [] (fun v B => v = .int .i64 0 ∧ B = []) nev := by
  refine Ct.of Tryd.func64 rfl Tryd.ntmps64 rfl fun m F => ?_
  repeat (first | refine wWD ?_ | intro b)
  refine c_cond rfl (fun h => ?_) (fun h => ?_)
  · repeat (first | refine wWD ?_ | intro b)
    first | exact e_ret1 [] rfl rfl ⟨rfl, rfl⟩ (arr_ent 0 [] _) | exact e_ret1 [] rfl rfl ⟨rfl, rfl⟩ (arr_ent 1 [] _) | exact e_ret1 [] rfl rfl ⟨rfl, rfl⟩ (arr_ent 2 [] _) | exact e_ret1 [] rfl rfl ⟨rfl, rfl⟩ (arr_ent 3 [] _) | exact e_ret1 [] rfl rfl ⟨rfl, rfl⟩ (arr_ent 4 [] _) | exact e_ret1 [] rfl rfl ⟨rfl, rfl⟩ (arr_ent 5 [] _) | exact e_ret1 [] rfl rfl ⟨rfl, rfl⟩ (arr_ent 6 [] _)
  · repeat (first | refine wWD ?_ | intro b)
    refine l_plain rfl (s_call rfl rfl (amounts_c sg mm e inf hm h1 h2) [] rfl ?_ (fun _ _ h => h.elim))
    rintro _ _ ⟨rfl, rfl⟩
    repeat (first | refine wWD ?_ | intro b)
    first | exact e_ret1 [] rfl rfl ⟨rfl, rfl⟩ (arr_ent 0 [] _) | exact e_ret1 [] rfl rfl ⟨rfl, rfl⟩ (arr_ent 1 [] _) | exact e_ret1 [] rfl rfl ⟨rfl, rfl⟩ (arr_ent 2 [] _) | exact e_ret1 [] rfl rfl ⟨rfl, rfl⟩ (arr_ent 3 [] _) | exact e_ret1 [] rfl rfl ⟨rfl, rfl⟩ (arr_ent 4 [] _) | exact e_ret1 [] rfl rfl ⟨rfl, rfl⟩ (arr_ent 5 [] _) | exact e_ret1 [] rfl rfl ⟨rfl, rfl⟩ (arr_ent 6 [] _)
theorem compareReal_c (l : List Value) (h : RL l) : Ct Tryd.prog 41 #[.agg l.toArray, .agg l.toArray] [] (fun v B => v = .int .i64 0 ∧ B = []) nev := by
  obtain ⟨sg, mm, e, inf, rfl, hm, h1, h2, h3, h4⟩ := h
  refine Ct.of Tryd.func41 rfl Tryd.ntmps41 rfl fun m F => ?_
  repeat (first | refine wWD ?_ | intro b)
  rw [show decide (sg = sg) = true from decide_eq_true rfl]
  repeat (first | refine wWD ?_ | intro b)
  refine qt_call rfl rfl (amounts2_c sg mm e inf hm h1 h2) [] rfl (Ent.refl _) ?_
  repeat (first | refine wWD ?_ | intro b)
  exact e_ret1 [] rfl rfl ⟨by rw [Int.mul_zero], rfl⟩ (arr_ent 2 [] _)
end Go.Proofs.YtfebpbflpdppiaaDoor
