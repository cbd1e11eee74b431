/- Walks over the reference's numbers: texts, samePart, whole, floating, places, amounts, compareReal. -/

import Derived.Test.YtfebpbflpdppiaaDoorD9c
namespace Go.Proofs.YtfebpbflpdppiaaDoor
open Go Go.Sl
set_option maxRecDepth 100000
attribute [local irreducible] wpList Code.wp Exit.then Exit.inBlock bodyPost RunS RunV G St Ct Sat Ent At Rd GQ QL wpAny wpOp wpQuiet slP Sl.ex sep
theorem bLess_refl (l : List UInt8) : Op.bytesLess l l = false := by
  induction l with
  | nil => rfl
  | cons b l ih => simp [Op.bytesLess, ih]
theorem texts_c (s : ByteArray) : Ct Tryd.prog 42 #[.string s, .string s] [] (fun v B => v = .int .i64 0 ∧ B = []) nev := by
  refine Ct.of Tryd.func42 rfl Tryd.ntmps42 rfl fun m F => ?_
  repeat (first | refine wWD ?_ | intro b)
  refine l_plain rfl ?_
  apply s_val rfl rfl
  · exact RunS.v (r_strLt rfl rfl)
  repeat (first | refine wWD ?_ | intro b)
  refine l_plain rfl ?_
  apply s_val rfl rfl
  · exact RunS.v (r_strGt rfl rfl)
  rw [bLess_refl, show (s.toList == s.toList) = true by simp]
  refine l_plain rfl (s_call rfl rfl (sign_c _ _) [] rfl ?_ (fun _ _ h => h.elim))
  rintro _ _ ⟨rfl, rfl⟩
  repeat (first | refine wWD ?_ | intro b)
  first | exact e_ret1 [] rfl rfl ⟨rfl, rfl⟩ (Ent.refl _) | exact e_ret0 [] rfl ⟨rfl, rfl⟩ (Ent.refl _) | exact e_nor0 [] rfl ⟨rfl, rfl⟩ (Ent.refl _) | exact e_ret2 [] rfl rfl rfl ⟨rfl, rfl⟩ (Ent.refl _)
theorem samePart_c (a : Nat) : Ct Tryd.prog 43 #[.int .u64 (a : Nat), .int .u64 (a : Nat)] [] (fun v B => v = .bool true ∧ B = []) nev := by
  refine Ct.of Tryd.func43 rfl Tryd.ntmps43 rfl fun m F => ?_
  repeat (first | refine wWD ?_ | intro b)
  refine l_plain rfl ?_
  apply s_val rfl rfl
  · exact RunS.v (r_ext rfl (f64from _))
  repeat (first | refine wWD ?_ | intro b)
  refine l_plain rfl ?_
  apply s_val rfl rfl
  · exact RunS.v (r_ext rfl (f64from _))
  repeat (first | refine wWD ?_ | intro b)
  generalize he : (FloatKind.f64.format.order a a == some .eq) = e
  have hne : (FloatKind.f64.format.order a a != some .eq) = !e := by rw [← he]; rfl
  cases e
  · repeat (first | refine wWD ?_ | intro b)
    rw [hne]
    repeat (first | refine wWD ?_ | intro b)
    try rw [hne]
    repeat (first | refine wWD ?_ | intro b)
    first | exact e_ret1 [] rfl rfl ⟨rfl, rfl⟩ (Ent.refl _) | exact e_ret0 [] rfl ⟨rfl, rfl⟩ (Ent.refl _) | exact e_nor0 [] rfl ⟨rfl, rfl⟩ (Ent.refl _) | exact e_ret2 [] rfl rfl rfl ⟨rfl, rfl⟩ (Ent.refl _)
  · repeat (first | refine wWD ?_ | intro b)
    first | exact e_ret1 [] rfl rfl ⟨rfl, rfl⟩ (Ent.refl _) | exact e_ret0 [] rfl ⟨rfl, rfl⟩ (Ent.refl _) | exact e_nor0 [] rfl ⟨rfl, rfl⟩ (Ent.refl _) | exact e_ret2 [] rfl rfl rfl ⟨rfl, rfl⟩ (Ent.refl _)
def reV (sg : Int) (mm : Nat) (e : Int) (inf : Bool) : List Value := [.int .i64 sg, .int .u64 (mm : Nat), .int .i64 e, .bool inf]
def whl (neg : Bool) (n : Nat) : List Value := if n = 0 then reV 0 0 0 false else if neg then reV (-1) n 0 false else reV 1 n 0 false
theorem whole_c (neg : Bool) (n : Nat) : Ct Tryd.prog 62 #[.bool neg, .int .u64 (n : Nat)] [] (fun v B => v = .agg (whl neg n).toArray ∧ B = []) nev := by
  refine Ct.of Tryd.func62 rfl Tryd.ntmps62 rfl fun m F => ?_
  refine G.keep [(0, .bool neg), (1, .int .u64 (n : Nat))] ⟨rfl, rfl, trivial⟩ ?_
  repeat (first | refine wWD ?_ | intro b)
  refine c_cond rfl (fun h => ?_) (fun h => ?_)
  · have h : n = 0 := by have := of_decide_eq_true h; omega
    subst h
    repeat (first | refine wWD ?_ | intro b)
    refine l_plain rfl ?_
    apply s_val rfl rfl
    · exact RunS.v (r_build (cells := (reV 0 0 0 false).toArray) rfl (by kernel_rfl))
    repeat (first | refine wWD ?_ | intro b)
    exact e_retC1 (vs := reV 0 0 0 false) [] rfl rfl rfl rfl (rdn_all 0 rfl) ⟨by simp [whl], rfl⟩ (arr_ent 1 [] _)
  · have h : n ≠ 0 := by have := of_decide_eq_false h; omega
    cases neg
    · repeat (first | refine wWD ?_ | intro b)
      refine l_plain rfl ?_
      apply s_val rfl rfl
      · exact RunS.v (r_build (cells := (reV 1 n 0 false).toArray) rfl (by kernel_rfl))
      repeat (first | refine wWD ?_ | intro b)
      exact e_retC1 (vs := reV 1 n 0 false) [] rfl rfl rfl rfl (rdn_all 0 rfl) ⟨by simp [whl, h], rfl⟩ (arr_ent 1 [] _)
    · repeat (first | refine wWD ?_ | intro b)
      refine l_plain rfl ?_
      apply s_val rfl rfl
      · exact RunS.v (r_build (cells := (reV (-1) n 0 false).toArray) rfl (by kernel_rfl))
      repeat (first | refine wWD ?_ | intro b)
      exact e_retC1 (vs := reV (-1) n 0 false) [] rfl rfl rfl rfl (rdn_all 0 rfl) ⟨by simp [whl, h], rfl⟩ (arr_ent 1 [] _)
end Go.Proofs.YtfebpbflpdppiaaDoor
