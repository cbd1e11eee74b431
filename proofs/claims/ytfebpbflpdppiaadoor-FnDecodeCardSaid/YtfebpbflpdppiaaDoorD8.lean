/- The walk over value. -/

import Derived.Test.YtfebpbflpdppiaaDoorD7b
namespace Go.Proofs.YtfebpbflpdppiaaDoor
open Go Go.Sl
set_option maxRecDepth 100000
theorem any_pure {v : Value} {s : Sc} (h : anyVal s = some v) : anyP (v, s) fun _ => none := by
  cases s <;> simp [anyVal] at h <;> subst h <;> rfl
theorem any_ro {b c : Nat} {s : List UInt8} (h1 : s.length ≤ c) (h2 : c ≤ maxLen) (L : List HP) : Ent (ro b 5 (u8s s) :: L) (anyP (.iface 22 (.slice (some ⟨b, 0, none⟩) s.length c), .bytes s) :: L) := Ent.imp fun _ h => .inr ⟨b, c, rfl, h1, h2, h⟩
attribute [local irreducible] wpList Code.wp Exit.then Exit.inBlock bodyPost RunS RunV G St Ct Sat Ent At Rd GQ QL wpAny wpOp wpQuiet slP Sl.ex sep
attribute [local irreducible] anys anyP
set_option maxHeartbeats 8000000 in
theorem value_c (s : Sc) (hs : (kS s).length ≤ 100000000000) : Ct Tryd.prog 35 #[.agg (scL s).toArray] [] (fun v B => (v.oneCell' = true ∧ isOne v = true) ∧ B = [anyP (v, s)]) nev := by
  have hml : 100000000000 ≤ maxLen := by unfold maxLen; omega
  refine Ct.of Tryd.func35 rfl Tryd.ntmps35 rfl fun m F => ?_
  cases s
  case bytes t =>
    repeat (first | refine wWD ?_ | intro b)
    apply qt_val rfl rfl rfl
    · exact RunS.v (r_ext rfl (f64from _))
    repeat (first | refine wWD ?_ | intro b)
    apply qt_val rfl rfl rfl
    · exact RunS.v (r_ext rfl (f64from _))
    repeat (first | refine wWD ?_ | intro b)
    refine l_plain rfl (s_strBc rfl (Nat.le_trans (m := 100000000000) hs hml) rfl fun nb c h1 h2 => ?_)
    repeat (first | refine wWD ?_ | intro b)
    exact e_ret1 [anyP (_, .bytes t)] rfl rfl ⟨⟨rfl, rfl⟩, rfl⟩ ((arr_ent 1 [0] _).trans (any_ro h1 h2 F))
  case bool b =>
    cases b
    · repeat (first | refine wWD ?_ | intro b)
      apply qt_val rfl rfl rfl
      · exact RunS.v (r_ext rfl (f64from _))
      repeat (first | refine wWD ?_ | intro b)
      apply qt_val rfl rfl rfl
      · exact RunS.v (r_ext rfl (f64from _))
      repeat (first | refine wWD ?_ | intro b)
      exact e_ret1 [anyP (_, _)] rfl rfl ⟨⟨rfl, rfl⟩, rfl⟩ ((arr_ent 1 [] _).trans (pure_in (any_pure rfl)))
    · repeat (first | refine wWD ?_ | intro b)
      apply qt_val rfl rfl rfl
      · exact RunS.v (r_ext rfl (f64from _))
      repeat (first | refine wWD ?_ | intro b)
      apply qt_val rfl rfl rfl
      · exact RunS.v (r_ext rfl (f64from _))
      repeat (first | refine wWD ?_ | intro b)
      exact e_ret1 [anyP (_, _)] rfl rfl ⟨⟨rfl, rfl⟩, rfl⟩ ((arr_ent 1 [] _).trans (pure_in (any_pure rfl)))
  all_goals
    repeat (first | refine wWD ?_ | intro b)
    apply qt_val rfl rfl rfl
    · exact RunS.v (r_ext rfl (f64from _))
    repeat (first | refine wWD ?_ | intro b)
    apply qt_val rfl rfl rfl
    · exact RunS.v (r_ext rfl (f64from _))
    repeat (first | refine wWD ?_ | intro b)
    exact e_ret1 [anyP (_, _)] rfl rfl ⟨⟨rfl, rfl⟩, rfl⟩ ((arr_ent 1 [] _).trans (pure_in (any_pure rfl)))
end Go.Proofs.YtfebpbflpdppiaaDoor
