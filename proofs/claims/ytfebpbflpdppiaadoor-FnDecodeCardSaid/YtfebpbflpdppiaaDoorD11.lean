/- Walks over alikeNumbers and one, of a scalar and itself. -/

import Derived.Test.YtfebpbflpdppiaaDoorD10e
namespace Go.Proofs.YtfebpbflpdppiaaDoor
open Go Go.Sl
set_option maxRecDepth 100000
attribute [local irreducible] wpList Code.wp Exit.then Exit.inBlock bodyPost RunS RunV G St Ct Sat Ent At Rd GQ QL wpAny wpOp wpQuiet slP Sl.ex sep
theorem prt_len1 (s : Sc) : (prt s).1.length = 4 := by cases s <;> simp only [prt] <;> (try split) <;> first | exact whl_len _ _ | exact flo_len _ | rfl
theorem prt_len2 (s : Sc) : (prt s).2.1.length = 4 := by cases s <;> simp only [prt] <;> (try split) <;> first | exact whl_len _ _ | exact flo_len _ | rfl
theorem prt_one1 (s : Sc) : (prt s).1.all (·.oneCell') = true := by cases s <;> simp only [prt] <;> (try split) <;> first | exact whl_one _ _ | exact flo_one _ | rfl
theorem prt_one2 (s : Sc) : (prt s).2.1.all (·.oneCell') = true := by cases s <;> simp only [prt] <;> (try split) <;> first | exact whl_one _ _ | exact flo_one _ | rfl
theorem ZR_RL : RL ZR := ⟨0, 0, 0, false, rfl, by omega, by omega, by omega, by omega, by omega⟩
theorem prt_RL1 (s : Sc) (hw : s.wf) : RL (prt s).1 := by
  cases s with
  | i64 n => exact whl_RL _ _ (by have := hw.1; have := hw.2; omega)
  | u64 n => exact whl_RL _ _ hw
  | f64 u => exact flo_RL u
  | c128 u v => simp only [prt]; split <;> exact flo_RL u
  | _ => exact ZR_RL
theorem prt_RL2 (s : Sc) : RL (prt s).2.1 := by
  cases s with
  | c128 u v =>
    simp only [prt]
    split
    · exact flo_RL v
    · exact ZR_RL
  | _ => exact ZR_RL
theorem prt_no (s : Sc) (h : (prt s).2.2 = false) : 12 ≤ kNum s := by
  cases s <;> first | (exact Nat.le_of_ble_eq_true rfl) | (simp [prt] at h)
attribute [local irreducible] prt
set_option maxHeartbeats 4000000 in
theorem alikeNumbers_c (s : Sc) (hw : s.wf) (hc : kCls s = 2) : Ct Tryd.prog 21 #[.agg (scL s).toArray, .agg (scL s).toArray] [] (fun v B => v = .bool true ∧ B = []) nev := by
  refine Ct.of Tryd.func21 rfl Tryd.ntmps21 rfl fun m F => ?_
  repeat (first | refine wWD ?_ | intro b)
  refine l_plain rfl (s_call rfl rfl (parts_c s hw hc) [] rfl ?_ (fun _ _ h => h.elim))
  rintro _ _ ⟨rfl, rfl⟩
  repeat (first | refine wWD ?_ | intro b)
  refine l_plain rfl (s_storeN (i := 1) (vs := (prt s).1) rfl rfl rfl (by rw [prt_len1]; rfl) (prt_one1 s) (by rw [prt_len1]; rfl) ?_)
  rw [spl4 _ _ (prt_len1 s) rfl]
  refine l_plain rfl (s_storeN (i := 1) (vs := (prt s).2.1) rfl rfl rfl (by rw [prt_len2]; rfl) (prt_one2 s) (by rw [prt_len2]; rfl) ?_)
  rw [spl4 _ _ (prt_len2 s) rfl]
  repeat (first | refine wWD ?_ | intro b)
  refine l_plain rfl (s_call rfl rfl (parts_c s hw hc) [] rfl ?_ (fun _ _ h => h.elim))
  rintro _ _ ⟨rfl, rfl⟩
  repeat (first | refine wWD ?_ | intro b)
  refine l_plain rfl (s_storeN (i := 1) (vs := (prt s).1) rfl rfl rfl (by rw [prt_len1]; rfl) (prt_one1 s) (by rw [prt_len1]; rfl) ?_)
  rw [spl4 _ _ (prt_len1 s) rfl]
  refine l_plain rfl (s_storeN (i := 1) (vs := (prt s).2.1) rfl rfl rfl (by rw [prt_len2]; rfl) (prt_one2 s) (by rw [prt_len2]; rfl) ?_)
  rw [spl4 _ _ (prt_len2 s) rfl]
  repeat (first | refine wWD ?_ | intro b)
  generalize hok : (prt s).2.2 = ok
  cases ok
  · have hk := prt_no s hok
    repeat (first | refine wWD ?_ | intro b)
    refine l_plain rfl (s_call rfl rfl (kind_c s) [] rfl ?_ (fun _ _ h => h.elim))
    rintro _ _ ⟨rfl, rfl⟩
    repeat (first | refine wWD ?_ | intro b)
    rw [show decide ((12 : Int) ≤ (kNum s : Int)) = true from decide_eq_true (by omega)]
    repeat (first | refine wWD ?_ | intro b)
    refine l_yes rfl rfl rfl (s_call rfl rfl (kind_c s) [] rfl ?_ (fun _ _ h => h.elim))
    rintro _ _ ⟨rfl, rfl⟩
    repeat (first | refine wWD ?_ | intro b)
    rw [show decide ((12 : Int) ≤ (kNum s : Int)) = true from decide_eq_true (by omega)]
    repeat (first | refine wWD ?_ | intro b)
    refine l_yes rfl rfl rfl (s_call rfl rfl (samePart_c _) [] rfl ?_ (fun _ _ h => h.elim))
    rintro _ _ ⟨rfl, rfl⟩
    repeat (first | refine wWD ?_ | intro b)
    refine l_yes rfl rfl rfl (s_call rfl rfl (samePart_c _) [] rfl ?_ (fun _ _ h => h.elim))
    rintro _ _ ⟨rfl, rfl⟩
    repeat (first | refine wWD ?_ | intro b)
    exact e_ret1 [] rfl rfl ⟨rfl, rfl⟩ (arr_ent 6 [] _)
  · repeat (first | refine wWD ?_ | intro b)
    refine l_plain rfl ?_
    apply s_val rfl rfl
    · exact r_loadN rfl rfl (prt_len1 s) (rdn_all 3 rfl)
    refine l_plain rfl ?_
    apply s_val rfl rfl
    · exact r_loadN rfl rfl (prt_len1 s) (rdn_all 1 rfl)
    refine l_plain rfl (s_call rfl rfl (compareReal_c _ (prt_RL1 s hw)) [] rfl ?_ (fun _ _ h => h.elim))
    rintro _ _ ⟨rfl, rfl⟩
    repeat (first | refine wWD ?_ | intro b)
    refine l_yes rfl rfl rfl ?_
    apply s_val rfl rfl
    · exact r_loadN rfl rfl (prt_len2 s) (rdn_all 2 rfl)
    refine l_yes rfl rfl rfl ?_
    apply s_val rfl rfl
    · exact r_loadN rfl rfl (prt_len2 s) (rdn_all 0 rfl)
    refine l_yes rfl rfl rfl (s_call rfl rfl (compareReal_c _ (prt_RL2 s)) [] rfl ?_ (fun _ _ h => h.elim))
    rintro _ _ ⟨rfl, rfl⟩
    repeat (first | refine wWD ?_ | intro b)
    exact e_ret1 [] rfl rfl ⟨rfl, rfl⟩ (arr_ent 6 [] _)
set_option maxHeartbeats 4000000 in
theorem one_c (s : Sc) (hc : kCls s ≠ 2) : Ct Tryd.prog 20 #[.agg (scL s).toArray, .agg (scL s).toArray, .bool false] [] (fun v B => v = .tuple #[.int .i64 0, .int .i64 1] ∧ B = []) nev := by
  refine Ct.of Tryd.func20 rfl Tryd.ntmps20 rfl fun m F => ?_
  cases s
  case bool b =>
    cases b
    all_goals
      repeat (first | refine wWD ?_ | intro b)
      refine qt_call rfl rfl (class_c _) [] rfl (Ent.refl _) ?_
      repeat (first | refine wWD ?_ | intro b)
      refine qt_call rfl rfl (class_c _) [] rfl (Ent.refl _) ?_
      simp only [kCls]
      repeat (first | refine wWD ?_ | intro b)
      refine l_plain rfl (s_call rfl rfl (sign_c _ _) [] rfl ?_ (fun _ _ h => h.elim))
      rintro _ _ ⟨rfl, rfl⟩
      repeat (first | refine wWD ?_ | intro b)
      exact e_ret2 [] rfl rfl rfl ⟨rfl, rfl⟩ (arr_ent 2 [] _)
  case nil =>
    repeat (first | refine wWD ?_ | intro b)
    refine qt_call rfl rfl (class_c _) [] rfl (Ent.refl _) ?_
    repeat (first | refine wWD ?_ | intro b)
    refine qt_call rfl rfl (class_c _) [] rfl (Ent.refl _) ?_
    simp only [kCls]
    repeat (first | refine wWD ?_ | intro b)
    exact e_ret2 [] rfl rfl rfl ⟨rfl, rfl⟩ (arr_ent 2 [] _)
  case bytes t =>
    repeat (first | refine wWD ?_ | intro b)
    refine qt_call rfl rfl (class_c _) [] rfl (Ent.refl _) ?_
    repeat (first | refine wWD ?_ | intro b)
    refine qt_call rfl rfl (class_c _) [] rfl (Ent.refl _) ?_
    simp only [kCls]
    repeat (first | refine wWD ?_ | intro b)
    refine l_plain rfl (s_call rfl rfl (texts_c _) [] rfl ?_ (fun _ _ h => h.elim))
    rintro _ _ ⟨rfl, rfl⟩
    repeat (first | refine wWD ?_ | intro b)
    exact e_ret2 [] rfl rfl rfl ⟨rfl, rfl⟩ (arr_ent 2 [] _)
  case str t =>
    repeat (first | refine wWD ?_ | intro b)
    refine qt_call rfl rfl (class_c _) [] rfl (Ent.refl _) ?_
    repeat (first | refine wWD ?_ | intro b)
    refine qt_call rfl rfl (class_c _) [] rfl (Ent.refl _) ?_
    simp only [kCls]
    repeat (first | refine wWD ?_ | intro b)
    refine l_plain rfl (s_call rfl rfl (texts_c _) [] rfl ?_ (fun _ _ h => h.elim))
    rintro _ _ ⟨rfl, rfl⟩
    repeat (first | refine wWD ?_ | intro b)
    exact e_ret2 [] rfl rfl rfl ⟨rfl, rfl⟩ (arr_ent 2 [] _)
  all_goals exact absurd rfl hc
end Go.Proofs.YtfebpbflpdppiaaDoor
