/- Walks over small functions of numbers, and of what is appended to the bytes behind a pointer. -/
import Derived.Test.YtfebpbflpdppiaaDoorTab
import Derived.Test.YtfebpbflpdppiaaDoorWv
namespace Go.Proofs.YtfebpbflpdppiaaDoor
open Go Go.Sl
set_option maxRecDepth 100000
attribute [local irreducible] wpList Code.wp Exit.then Exit.inBlock bodyPost RunS RunV G St Ct Sat Ent At Rd GQ QL wpAny wpOp wpQuiet slP Sl.ex sep
instance : Mixed Tryd.prog := ⟨by kernel_rfl⟩
theorem zzMax_c (a b : Int) : Ct Tryd.prog 58 #[.int .i64 a, .int .i64 b] [] (fun v B => v = .int .i64 (max a b) ∧ B = []) nev := by
  refine Ct.of Tryd.func58 rfl Tryd.ntmps58 rfl fun m F => ?_
  repeat (first | refine wW ?_ | intro b)
  refine c_cond rfl (fun h => ?_) (fun h => ?_)
  · repeat (first | refine wW ?_ | intro b)
    exact e_ret1 [] rfl rfl ⟨by have := of_decide_eq_true h; rw [Int.max_eq_left (by omega)], rfl⟩ (Ent.refl _)
  · repeat (first | refine wW ?_ | intro b)
    exact e_ret1 [] rfl rfl ⟨by have := of_decide_eq_false h; rw [Int.max_eq_right (by omega)], rfl⟩ (Ent.refl _)
theorem sign_c (a b : Bool) : Ct Tryd.prog 37 #[.bool a, .bool b] [] (fun v B => v = .int .i64 (if a then -1 else if b then 1 else 0) ∧ B = []) nev := by
  refine Ct.of Tryd.func37 rfl Tryd.ntmps37 rfl fun m F => ?_
  cases a <;> cases b
  all_goals
    repeat (first | refine wW ?_ | intro b)
  all_goals first | exact e_ret1 [] rfl rfl ⟨rfl, rfl⟩ (Ent.refl _) | exact e_ret0 [] rfl ⟨rfl, rfl⟩ (Ent.refl _) | exact e_nor0 [] rfl ⟨rfl, rfl⟩ (Ent.refl _) | exact e_ret2 [] rfl rfl rfl ⟨rfl, rfl⟩ (Ent.refl _)
/-- how many binary digits -/
def bl (n : Nat) : Nat := if n = 0 then 0 else bl (n / 2) + 1
termination_by n
theorem bl_zero : bl 0 = 0 := by unfold bl; simp
theorem bl_pos {n : Nat} (h : 0 < n) : bl n = bl (n / 2) + 1 := by rw [bl, if_neg (by omega)]
theorem bl_le : ∀ (k n : Nat), n < 2 ^ k → bl n ≤ k := by
  intro k
  induction k with
  | zero => intro n h; have : n = 0 := by simpa using h
            subst this; simp [bl_zero]
  | succ k ih =>
    intro n h
    by_cases h0 : n = 0
    · subst h0; simp [bl_zero]
    · rw [bl_pos (by omega)]
      have := ih (n / 2) (by rw [Nat.pow_succ] at h; omega)
      omega
theorem shr1 (a : Nat) : ((a : Int)).fdiv (2 ^ (min (1 : Int).toNat IntKind.u64.bits)) = ((a / 2 : Nat) : Int) := by
  rw [show (2 : Int) ^ (min (1 : Int).toNat IntKind.u64.bits) = 2 from by decide, Int.fdiv_eq_ediv_of_nonneg _ (by omega)]; omega
theorem zzBitLen_c (n : Nat) (hn : n < 2 ^ 64) : Ct Tryd.prog 59 #[.int .u64 n] [] (fun v B => v = .int .i64 (bl n) ∧ B = []) nev := by
  refine Ct.of Tryd.func59 rfl Tryd.ntmps59 rfl fun m F => ?_
  repeat (first | refine wW ?_ | intro b)
  refine c_loop (α := Nat × Nat) (fun p => [(0, .int .u64 p.1), (3, .int .i64 p.2)]) (fun _ => F) (fun p => p.1 < 2 ^ 64 ∧ p.2 + bl p.1 = bl n) (fun p => p.1) (n, 0) ⟨hn, by simp⟩ ⟨rfl, rfl, trivial⟩ (Ent.refl _) ?_
  rintro ⟨a, k⟩ ⟨ha, hk⟩
  have hb := bl_le 64 n hn
  dsimp only at ha hk ⊢
  repeat (first | refine wW ?_ | intro b)
  refine c_cond rfl (fun h => ?_) (fun h => ?_)
  · repeat (first | refine wW ?_ | intro b)
    have h0 : 0 < a := by have := of_decide_eq_true h; omega
    have hbl := bl_pos h0
    exact at_intro (a / 2, k + 1) ⟨⟨by dsimp only; omega, by dsimp only; omega⟩, by dsimp only; omega⟩ ⟨by rw [shr1]; rfl, rfl, trivial⟩ (Ent.refl _)
  · repeat (first | refine wW ?_ | intro b)
    have h0 : a = 0 := by have := of_decide_eq_false h; omega
    subst h0
    rw [bl_zero] at hk
    exact e_ret1 [] rfl rfl ⟨by rw [← hk]; rfl, rfl⟩ (Ent.refl _)
end Go.Proofs.YtfebpbflpdppiaaDoor
