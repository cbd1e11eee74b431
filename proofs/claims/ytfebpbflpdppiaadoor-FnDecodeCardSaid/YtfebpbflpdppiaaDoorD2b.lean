/- More of what appends: prefixes, floats. -/
import Derived.Test.YtfebpbflpdppiaaDoorD2a
namespace Go.Proofs.YtfebpbflpdppiaaDoor
open Go Go.Sl
set_option maxRecDepth 100000
attribute [local irreducible] wpList Code.wp Exit.then Exit.inBlock bodyPost RunS RunV G St Ct Sat Ent At Rd GQ QL wpAny wpOp wpQuiet slP Sl.ex sep
theorem encUP_c (pre : Int) (n : Nat) (hn : n < 2 ^ 64) (pb : Nat) (ls : List Value) (hl : ls.length ≤ 1000000000000) : Ct Tryd.prog 60 #[.int .u8 pre, .int .u64 n, .pointer (some ⟨pb, 0, none⟩)] [bufP pb ls]
    (fun v B => v = .tuple #[] ∧ B = [bufP pb (ls ++ .int .u8 pre :: encU n)]) nev := by
  refine Ct.of Tryd.func60 rfl Tryd.ntmps60 rfl fun m F => bufP_open fun a c => ?_
  repeat (first | refine wW ?_ | intro b)
  (refine l_plain rfl (s_append (i := 2) rfl rfl rfl (Src.some _ _ _ _ _ rfl (rdn_all 0 rfl)) rfl rfl (Nat.mul_one _).symm rfl (by omega) (by unfold maxLen; omega) rfl ?_); intro a c)
  repeat (first | refine wW ?_ | intro b)
  refine G.ent ((arr_ent 1 [0, 0] _).trans (bufP_shut (ls := ls ++ [Value.int IntKind.u8 pre]) a c (by simp))) ?_
  refine l_plain rfl (s_call rfl rfl (encU0_c n hn pb _ (by simp; omega)) [0] rfl ?_ (fun _ _ h => h.elim))
  rintro _ _ ⟨rfl, rfl⟩
  repeat (first | refine wW ?_ | intro b)
  exact e_nor0 [bufP pb (ls ++ .int .u8 pre :: encU n)] rfl ⟨rfl, rfl⟩ (by rw [List.append_assoc]; exact Ent.refl _)
theorem encU_len (n : Nat) : 1 ≤ (encU n).length ∧ (encU n).length ≤ 8 := by
  unfold encU
  repeat' split
  all_goals simp
/-- the bytes of u, the other way round: the first i of them -/
def rv : Nat → Nat → Nat
  | 0, _ => 0
  | i + 1, u => rv i u * 256 + u / 256 ^ i % 256
theorem rv_lt (i u : Nat) : rv i u < 256 ^ i := by
  induction i with
  | zero => simp [rv]
  | succ i ih => simp only [rv, Nat.pow_succ]; omega
theorem or_low (a b : Nat) (h : b < 256) : a * 256 ||| b = a * 256 + b := by
  have := Nat.shiftLeft_add_eq_or_of_lt (i := 8) (b := b) (by simpa using h) a
  rw [Nat.shiftLeft_eq] at this
  exact this.symm
theorem and_ff (a : Nat) : a &&& 255 = a % 256 := Nat.and_two_pow_sub_one_eq_mod a 8
theorem f64bits (b : Nat) (w : World) : (callFunc 27 #[.float .f64 b]).run Tryd.prog w = .ok (.value (.int .u64 b)) w := by
  rw [run_callFunc_extern Tryd.func27 (by kernel_rfl) (by kernel_rfl) (by kernel_rfl) (by kernel_rfl : _ = some Extern.MathFloatBits.float64bits)]; rfl
theorem f64from (b : Nat) (w : World) : (callFunc 53 #[.int .u64 b]).run Tryd.prog w = .ok (.value (.float .f64 b)) w := by
  rw [run_callFunc_extern Tryd.func53 (by kernel_rfl) (by kernel_rfl) (by kernel_rfl) (by kernel_rfl : _ = some Extern.MathFloatBits.float64frombits)]; rfl
def encF (pre : Int) (u : Nat) : List Value := if rv 8 u = 0 then [.int .u8 pre] else .int .u8 (IntKind.u8.wrap (IntKind.u8.wrap (pre + 1) + IntKind.u8.wrap (((bl (rv 8 u) : Int) - 1).fdiv (2 ^ 3)))) :: encU (rv 8 u)
theorem encFP_c (pre : Int) (u : Nat) (hu : u < 2 ^ 64) (pb : Nat) (ls : List Value) (hl : ls.length ≤ 100000000000) : Ct Tryd.prog 56 #[.int .u8 pre, .float .f64 u, .pointer (some ⟨pb, 0, none⟩)] [bufP pb ls]
    (fun v B => v = .tuple #[] ∧ B = [bufP pb (ls ++ encF pre u)]) nev := by
  refine Ct.of Tryd.func56 rfl Tryd.ntmps56 rfl fun m F => ?_
  repeat (first | refine wW ?_ | intro b)
  refine l_plain rfl ?_
  apply s_val rfl rfl
  · exact RunS.v (r_ext rfl (f64bits u))
  repeat (first | refine wW ?_ | intro b)
  refine c_loop (α := Nat) (fun i => [(0, .int .u8 pre), (2, .pointer (some ⟨pb, 0, none⟩)), (6, .int .u64 ((u / 256 ^ i : Nat) : Int)), (7, .int .u64 (rv i u : Nat)), (8, .int .i64 (i : Nat))]) (fun _ => bufP pb ls :: F) (fun i => i ≤ 8) (fun i => 8 - i) 0 (by omega)
    ⟨rfl, rfl, by simp [lk], rfl, rfl, trivial⟩ (Ent.refl _) ?_
  intro i hi
  repeat (first | refine wW ?_ | intro b)
  by_cases h8 : i < 8
  · refine c_condT (by rw [show decide ((i : Int) < 8) = true from decide_eq_true (by omega)]; rfl) ?_
    have hr := rv_lt i u
    have hp : 256 ^ i ≤ 256 ^ 7 := Nat.pow_le_pow_right (by omega) (by omega)
    have h256 : (256 : Nat) ^ 7 = 72057594037927936 := by decide
    repeat (first | refine wW ?_ | intro b)
    refine l_plain rfl ?_
    apply s_val rfl rfl
    · exact RunS.v (r_shlN 8 rfl rfl rfl (by simp [IntKind.max, IntKind.signed, IntKind.bits]; omega))
    repeat (first | refine wW ?_ | intro b)
    refine l_plain rfl ?_
    apply s_val rfl rfl
    · exact RunS.v (r_andN (b := 255) rfl rfl (by have := Nat.div_le_self u (256 ^ i); simp [IntKind.bits]; omega) (by decide) (by rw [and_ff]; simp [IntKind.max, IntKind.signed, IntKind.bits]; omega))
    rw [and_ff]
    refine l_plain rfl ?_
    apply s_val rfl rfl
    · exact RunS.v (r_orN rfl rfl (by simp [IntKind.bits]; omega) (by simp [IntKind.bits]; omega) (by rw [show (2 : Nat) ^ 8 = 256 from rfl, or_low _ _ (by omega)]; simp [IntKind.max, IntKind.signed, IntKind.bits]; omega))
    rw [show (2 : Nat) ^ 8 = 256 from rfl, or_low _ _ (by omega)]
    repeat (first | refine wW ?_ | intro b)
    rw [show ((u / 256 ^ i : Nat) : Int).fdiv (2 ^ min (Int.toNat 8) IntKind.u64.bits) = ((u / 256 ^ (i + 1) : Nat) : Int) from by rw [show min (Int.toNat 8) IntKind.u64.bits = 8 from rfl, fdivN, Nat.div_div_eq_div_mul, Nat.pow_succ 256 i]]
    exact at_intro (i + 1) ⟨by omega, by omega⟩ ⟨rfl, rfl, rfl, rfl, rfl, trivial⟩ (Ent.refl _)
  · refine c_condF (by rw [show decide ((i : Int) < 8) = false from decide_eq_false (by omega)]; rfl) ?_
    have h8 : i = 8 := by omega
    subst h8
    have hr : rv 8 u < 2 ^ 64 := by have := rv_lt 8 u; rwa [show (256 : Nat) ^ 8 = 2 ^ 64 from by decide] at this
    repeat (first | refine wW ?_ | intro b)
    refine l_plain rfl (s_call rfl rfl (zzBitLen_c (rv 8 u) hr) [] rfl ?_ (fun _ _ h => h.elim))
    rintro _ _ ⟨rfl, rfl⟩
    have hbl := bl_le 64 _ hr
    repeat (first | refine wW ?_ | intro b)
    by_cases h0 : rv 8 u = 0
    · have hb0 : bl (rv 8 u) = 0 := by rw [h0, bl_zero]
      refine c_condT (by rw [show decide ((bl (rv 8 u) : Int) = 0) = true from decide_eq_true (by omega)]; rfl) ?_
      refine bufP_open fun a c => ?_
      repeat (first | refine wW ?_ | intro b)
      (refine l_plain rfl (s_append (i := 2) rfl rfl rfl (Src.some _ _ _ _ _ rfl (rdn_all 0 rfl)) rfl rfl (Nat.mul_one _).symm rfl (by omega) (by unfold maxLen; omega) rfl ?_); intro a c)
      repeat (first | refine wW ?_ | intro b)
      exact e_ret0 [bufP pb (ls ++ encF pre u)] rfl ⟨rfl, rfl⟩ (by unfold encF; rw [if_pos h0]; exact (arr_ent 1 [0, 0] _).trans (bufP_shut (ls := ls ++ [Value.int IntKind.u8 pre]) a c (by simp)))
    · have hb0 : 0 < bl (rv 8 u) := by rw [bl_pos (by omega)]; omega
      refine c_condF (by rw [show decide ((bl (rv 8 u) : Int) = 0) = false from decide_eq_false (by omega)]; rfl) ?_
      repeat (first | refine wW ?_ | intro b)
      refine l_plain rfl ?_
      apply s_val rfl rfl
      · exact RunS.v (r_add rfl rfl)
      repeat (first | refine wW ?_ | intro b)
      refine l_plain rfl ?_
      apply s_val rfl rfl
      · exact RunS.v (r_add rfl rfl)
      repeat (first | refine wW ?_ | intro b)
      refine l_plain rfl (s_call rfl rfl (encUP_c _ (rv 8 u) hr pb ls (by omega)) [0] rfl ?_ (fun _ _ h => h.elim))
      rintro _ _ ⟨rfl, rfl⟩
      repeat (first | refine wW ?_ | intro b)
      exact e_nor0 [bufP pb (ls ++ encF pre u)] rfl ⟨rfl, rfl⟩ (by unfold encF; rw [if_neg h0]; exact Ent.refl _)
theorem encFloat_c (u : Nat) (hu : u < 2 ^ 64) (pb : Nat) (ls : List Value) (hl : ls.length ≤ 100000000000) : Ct Tryd.prog 29 #[.float .f64 u, .pointer (some ⟨pb, 0, none⟩)] [bufP pb ls]
    (fun v B => v = .tuple #[] ∧ B = [bufP pb (ls ++ encF 3 u)]) nev := by
  refine Ct.of Tryd.func29 rfl Tryd.ntmps29 rfl fun m F => ?_
  repeat (first | refine wW ?_ | intro b)
  refine l_plain rfl (s_call rfl rfl (encFP_c 3 u hu pb ls (by omega)) [0] rfl ?_ (fun _ _ h => h.elim))
  rintro _ _ ⟨rfl, rfl⟩
  repeat (first | refine wW ?_ | intro b)
  exact e_nor0 [bufP pb (ls ++ encF 3 u)] rfl ⟨rfl, rfl⟩ (Ent.refl _)
theorem encF_len (pre : Int) (u : Nat) : 1 ≤ (encF pre u).length ∧ (encF pre u).length ≤ 9 := by
  unfold encF
  have := encU_len (rv 8 u)
  split <;> simp <;> omega
theorem encComplex_c (u v : Nat) (hu : u < 2 ^ 64) (hv : v < 2 ^ 64) (pb : Nat) (ls : List Value) (hl : ls.length ≤ 10000000000) : Ct Tryd.prog 30 #[.complex .f64 u v, .pointer (some ⟨pb, 0, none⟩)] [bufP pb ls]
    (fun r B => r = .tuple #[] ∧ B = [bufP pb (ls ++ encF 12 u ++ encF 12 v)]) nev := by
  refine Ct.of Tryd.func30 rfl Tryd.ntmps30 rfl fun m F => ?_
  have := encF_len 12 u
  repeat (first | refine wW ?_ | intro b)
  refine l_plain rfl (s_call rfl rfl (encFP_c 12 u hu pb ls (by omega)) [0] rfl ?_ (fun _ _ h => h.elim))
  rintro _ _ ⟨rfl, rfl⟩
  repeat (first | refine wW ?_ | intro b)
  refine l_plain rfl (s_call rfl rfl (encFP_c 12 v hv pb (ls ++ encF 12 u) (by simp; omega)) [0] rfl ?_ (fun _ _ h => h.elim))
  rintro _ _ ⟨rfl, rfl⟩
  repeat (first | refine wW ?_ | intro b)
  exact e_nor0 [bufP pb (ls ++ encF 12 u ++ encF 12 v)] rfl ⟨rfl, rfl⟩ (Ent.refl _)
def encUi (n : Nat) : List Value := .int .u8 (IntKind.u8.wrap (61 + IntKind.u8.wrap ((max 1 (bl n : Int) - 1).fdiv (2 ^ 3)))) :: encU n
theorem encUint_c (n : Nat) (hn : n < 2 ^ 64) (pb : Nat) (ls : List Value) (hl : ls.length ≤ 100000000000) : Ct Tryd.prog 34 #[.int .u64 n, .pointer (some ⟨pb, 0, none⟩)] [bufP pb ls]
    (fun v B => v = .tuple #[] ∧ B = [bufP pb (ls ++ encUi n)]) nev := by
  refine Ct.of Tryd.func34 rfl Tryd.ntmps34 rfl fun m F => ?_
  have hbl := bl_le 64 n hn
  repeat (first | refine wW ?_ | intro b)
  refine l_plain rfl (s_call rfl rfl (zzBitLen_c n hn) [] rfl ?_ (fun _ _ h => h.elim))
  rintro _ _ ⟨rfl, rfl⟩
  refine l_plain rfl (s_call rfl rfl (zzMax_c _ _) [] rfl ?_ (fun _ _ h => h.elim))
  rintro _ _ ⟨rfl, rfl⟩
  repeat (first | refine wW ?_ | intro b)
  refine l_plain rfl ?_
  apply s_val rfl rfl
  · exact RunS.v (r_add rfl rfl)
  repeat (first | refine wW ?_ | intro b)
  refine l_plain rfl (s_call rfl rfl (encUP_c _ n hn pb ls (by omega)) [0] rfl ?_ (fun _ _ h => h.elim))
  rintro _ _ ⟨rfl, rfl⟩
  repeat (first | refine wW ?_ | intro b)
  exact e_nor0 [bufP pb (ls ++ encUi n)] rfl ⟨rfl, rfl⟩ (Ent.refl _)
end Go.Proofs.YtfebpbflpdppiaaDoor
