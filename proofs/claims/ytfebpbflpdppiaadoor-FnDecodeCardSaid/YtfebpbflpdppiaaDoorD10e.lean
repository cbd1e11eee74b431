/- The walk over parts. -/

import Derived.Test.YtfebpbflpdppiaaDoorD10c
namespace Go.Proofs.YtfebpbflpdppiaaDoor
open Go Go.Sl
set_option maxRecDepth 100000
attribute [local irreducible] wpList Code.wp Exit.then Exit.inBlock bodyPost RunS RunV G St Ct Sat Ent At Rd GQ QL wpAny wpOp wpQuiet slP Sl.ex sep
def ZR : List Value := reV 0 0 0 false
def prt : Sc → List Value × List Value × Bool
  | .i64 n => (whl (decide (n < 0)) n.natAbs, ZR, true)
  | .u64 n => (whl false n, ZR, true)
  | .f64 u => ((flo u).1, ZR, (flo u).2)
  | .c128 u v => if (flo u).2 then ((flo u).1, (flo v).1, (flo v).2) else ((flo u).1, ZR, false)
  | _ => (ZR, ZR, true)
theorem whl_len (b : Bool) (n : Nat) : (whl b n).length = 4 := by unfold whl; split <;> (try split) <;> rfl
theorem whl_one (b : Bool) (n : Nat) : (whl b n).all (·.oneCell') = true := by unfold whl; split <;> (try split) <;> rfl
theorem flo_len (u : Nat) : (flo u).1.length = 4 := by unfold flo; split <;> (try split) <;> (try split) <;> rfl
theorem flo_one (u : Nat) : (flo u).1.all (·.oneCell') = true := by unfold flo; split <;> (try split) <;> (try split) <;> rfl
theorem spl4 (vs l : List Value) (h : vs.length = 4) (h' : l.length = 4) : spl l 0 vs = vs := by
  match vs, h with
  | [a, b, c, d], _ =>
    match l, h' with
    | [e, f, g, i], _ => rfl
theorem abs_pos (n : Int) (h : 0 ≤ n) (h2 : n ≤ 9223372036854775807) : IntKind.u64.wrap n = (n.natAbs : Int) := by
  simp only [IntKind.wrap, IntKind.signed, IntKind.bits]; simp; omega
theorem abs_neg (n : Int) (h : n < 0) (h2 : -9223372036854775808 ≤ n) : IntKind.u64.wrap (0 - IntKind.u64.wrap n) = (n.natAbs : Int) := by
  simp only [IntKind.wrap, IntKind.signed, IntKind.bits]; simp; omega
theorem prtF {u v : Nat} (h : (flo u).2 = false) : prt (.c128 u v) = ((flo u).1, ZR, false) := by simp [prt, h]
theorem prtT {u v : Nat} (h : (flo u).2 = true) : prt (.c128 u v) = ((flo u).1, (flo v).1, (flo v).2) := by simp [prt, h]
attribute [local irreducible] whl flo
def prR (s : Sc) : Value → List HP → Prop := fun v B => v = .tuple #[.agg (prt s).1.toArray, .agg (prt s).2.1.toArray, .bool (prt s).2.2] ∧ B = []
set_option maxHeartbeats 4000000 in
theorem parts_c (s : Sc) (hw : s.wf) (hc : kCls s = 2) : Ct Tryd.prog 38 #[.agg (scL s).toArray] [] (prR s) nev := by
  refine Ct.of Tryd.func38 rfl Tryd.ntmps38 rfl fun m F => ?_
  cases s
  case i64 n =>
    obtain ⟨w1, w2⟩ := hw
    repeat (first | refine wWD ?_ | intro b)
    refine l_plain rfl (s_call rfl rfl (kind_c (.i64 n)) [] rfl ?_ (fun _ _ h => h.elim))
    rintro _ _ ⟨rfl, rfl⟩
    rename_i b1 b2
    show G 57 [] _ m (blk b (cl ZR 88) :: blk b2 (cl ZR 88) :: blk b1 (cl (scL (.i64 n)) 36) :: F) _
    repeat (first | refine wWD ?_ | intro b)
    refine c_cond rfl (fun h => ?_) (fun h => ?_)
    · have h : n < 0 := of_decide_eq_true h
      repeat (first | refine wWD ?_ | intro b)
      refine l_plain rfl ?_
      apply s_val rfl rfl
      · exact RunS.v (r_neg rfl)
      rw [show IntKind.u64.wrap (0 - IntKind.u64.wrap (kI (Sc.i64 n))) = (n.natAbs : Int) from abs_neg n h w1]
      repeat (first | refine wWD ?_ | intro b)
      refine l_plain rfl (s_call rfl rfl (whole_c (decide (n < 0)) n.natAbs) [] rfl ?_ (fun _ _ h => h.elim))
      rintro _ _ ⟨rfl, rfl⟩
      repeat (first | refine wWD ?_ | intro b)
      refine l_plain rfl ?_
      apply s_val rfl rfl
      · exact RunS.v (r_build (cells := ZR.toArray) rfl (by kernel_rfl))
      refine l_plain rfl (s_storeN (i := 1) (vs := whl (decide (n < 0)) n.natAbs) rfl rfl rfl (by rw [whl_len]; rfl) (whl_one _ _) (by rw [whl_len]; rfl) ?_)
      rw [spl4 _ _ (whl_len _ _) rfl]
      repeat (first | refine wWD ?_ | intro b)
      exact e_retAAT (vs := whl (decide (n < 0)) n.natAbs) (vs2 := ZR) [] rfl rfl rfl rfl (whl_len _ _) rfl (rdn_all 1 rfl) (rdn_all 0 rfl) rfl ⟨rfl, rfl⟩ (arr_ent 3 [] _)
    · have h : 0 ≤ n := by have := of_decide_eq_false h; simp only [kI] at this; omega
      repeat (first | refine wWD ?_ | intro b)
      rw [show IntKind.u64.wrap (kI (Sc.i64 n)) = (n.natAbs : Int) from abs_pos n h w2]
      refine l_plain rfl (s_call rfl rfl (whole_c (decide (n < 0)) n.natAbs) [] rfl ?_ (fun _ _ h => h.elim))
      rintro _ _ ⟨rfl, rfl⟩
      repeat (first | refine wWD ?_ | intro b)
      refine l_plain rfl ?_
      apply s_val rfl rfl
      · exact RunS.v (r_build (cells := ZR.toArray) rfl (by kernel_rfl))
      refine l_plain rfl (s_storeN (i := 1) (vs := whl (decide (n < 0)) n.natAbs) rfl rfl rfl (by rw [whl_len]; rfl) (whl_one _ _) (by rw [whl_len]; rfl) ?_)
      rw [spl4 _ _ (whl_len _ _) rfl]
      repeat (first | refine wWD ?_ | intro b)
      exact e_retAAT (vs := whl (decide (n < 0)) n.natAbs) (vs2 := ZR) [] rfl rfl rfl rfl (whl_len _ _) rfl (rdn_all 1 rfl) (rdn_all 0 rfl) rfl ⟨rfl, rfl⟩ (arr_ent 3 [] _)
  case u64 n =>
    repeat (first | refine wWD ?_ | intro b)
    refine l_plain rfl (s_call rfl rfl (kind_c (.u64 n)) [] rfl ?_ (fun _ _ h => h.elim))
    rintro _ _ ⟨rfl, rfl⟩
    rename_i b1 b2
    show G 57 [] _ m (blk b (cl ZR 88) :: blk b2 (cl ZR 88) :: blk b1 (cl (scL (.u64 n)) 36) :: F) _
    repeat (first | refine wWD ?_ | intro b)
    refine l_plain rfl (s_call rfl rfl (whole_c false n) [] rfl ?_ (fun _ _ h => h.elim))
    rintro _ _ ⟨rfl, rfl⟩
    repeat (first | refine wWD ?_ | intro b)
    refine l_plain rfl ?_
    apply s_val rfl rfl
    · exact RunS.v (r_build (cells := ZR.toArray) rfl (by kernel_rfl))
    refine l_plain rfl (s_storeN (i := 1) (vs := whl false n) rfl rfl rfl (by rw [whl_len]; rfl) (whl_one _ _) (by rw [whl_len]; rfl) ?_)
    rw [spl4 _ _ (whl_len _ _) rfl]
    repeat (first | refine wWD ?_ | intro b)
    exact e_retAAT (vs := whl false n) (vs2 := ZR) [] rfl rfl rfl rfl (whl_len _ _) rfl (rdn_all 1 rfl) (rdn_all 0 rfl) rfl ⟨rfl, rfl⟩ (arr_ent 3 [] _)
  case f64 u =>
    repeat (first | refine wWD ?_ | intro b)
    refine l_plain rfl (s_call rfl rfl (kind_c (.f64 u)) [] rfl ?_ (fun _ _ h => h.elim))
    rintro _ _ ⟨rfl, rfl⟩
    rename_i b1 b2
    show G 57 [] _ m (blk b (cl ZR 88) :: blk b2 (cl ZR 88) :: blk b1 (cl (scL (.f64 u)) 36) :: F) _
    repeat (first | refine wWD ?_ | intro b)
    refine l_plain rfl (s_call rfl rfl (floating_c u hw) [] rfl ?_ (fun _ _ h => h.elim))
    rintro _ _ ⟨rfl, rfl⟩
    repeat (first | refine wWD ?_ | intro b)
    refine l_plain rfl (s_storeN (i := 1) (vs := (flo u).1) rfl rfl rfl (by rw [flo_len]; rfl) (flo_one _) (by rw [flo_len]; rfl) ?_)
    rw [spl4 _ _ (flo_len _) rfl]
    repeat (first | refine wWD ?_ | intro b)
    refine l_plain rfl ?_
    apply s_val rfl rfl
    · exact r_loadN rfl rfl (flo_len u) (rdn_all 0 rfl)
    refine l_plain rfl ?_
    apply s_val rfl rfl
    · exact RunS.v (r_build (cells := ZR.toArray) rfl (by kernel_rfl))
    repeat (first | refine wWD ?_ | intro b)
    refine l_plain rfl (s_storeN (i := 0) (vs := (flo u).1) rfl rfl rfl (by rw [flo_len]; rfl) (flo_one _) (by rw [flo_len]; rfl) ?_)
    rw [spl4 _ _ (flo_len _) (flo_len _)]
    repeat (first | refine wWD ?_ | intro b)
    exact e_retAAT (vs := (flo u).1) (vs2 := ZR) [] rfl rfl rfl rfl (flo_len _) rfl (rdn_all 1 rfl) (rdn_all 0 rfl) rfl ⟨rfl, rfl⟩ (arr_ent 3 [] _)
  case c128 u v =>
    obtain ⟨w1, w2⟩ := hw
    repeat (first | refine wWD ?_ | intro b)
    refine l_plain rfl (s_call rfl rfl (kind_c (.c128 u v)) [] rfl ?_ (fun _ _ h => h.elim))
    rintro _ _ ⟨rfl, rfl⟩
    rename_i b1 b2
    show G 57 [] _ m (blk b (cl ZR 88) :: blk b2 (cl ZR 88) :: blk b1 (cl (scL (.c128 u v)) 36) :: F) _
    repeat (first | refine wWD ?_ | intro b)
    refine l_plain rfl (s_call rfl rfl (floating_c u w1) [] rfl ?_ (fun _ _ h => h.elim))
    rintro _ _ ⟨rfl, rfl⟩
    repeat (first | refine wWD ?_ | intro b)
    refine l_plain rfl (s_storeN (i := 1) (vs := (flo u).1) rfl rfl rfl (by rw [flo_len]; rfl) (flo_one _) (by rw [flo_len]; rfl) ?_)
    rw [spl4 _ _ (flo_len _) rfl]
    repeat (first | refine wWD ?_ | intro b)
    generalize hok : (flo u).2 = ok
    cases ok
    · repeat (first | refine wWD ?_ | intro b)
      refine l_plain rfl ?_
      apply s_val rfl rfl
      · exact r_loadN rfl rfl (flo_len u) (rdn_all 0 rfl)
      refine l_plain rfl ?_
      apply s_val rfl rfl
      · exact RunS.v (r_build (cells := ZR.toArray) rfl (by kernel_rfl))
      repeat (first | refine wWD ?_ | intro b)
      refine l_plain rfl (s_storeN (i := 0) (vs := (flo u).1) rfl rfl rfl (by rw [flo_len]; rfl) (flo_one _) (by rw [flo_len]; rfl) ?_)
      rw [spl4 _ _ (flo_len _) (flo_len _)]
      repeat (first | refine wWD ?_ | intro b)
      exact e_retAAT (vs := (flo u).1) (vs2 := ZR) [] rfl rfl rfl rfl (flo_len _) rfl (rdn_all 1 rfl) (rdn_all 0 rfl) rfl ⟨by rw [prtF hok]; rfl, rfl⟩ (arr_ent 3 [] _)
    · repeat (first | refine wWD ?_ | intro b)
      refine l_plain rfl (s_call rfl rfl (floating_c v w2) [] rfl ?_ (fun _ _ h => h.elim))
      rintro _ _ ⟨rfl, rfl⟩
      repeat (first | refine wWD ?_ | intro b)
      refine l_plain rfl (s_storeN (i := 1) (vs := (flo v).1) rfl rfl rfl (by rw [flo_len]; rfl) (flo_one _) (by rw [flo_len]; rfl) ?_)
      rw [spl4 _ _ (flo_len _) rfl]
      repeat (first | refine wXD ?_ | intro b)
      refine c_any 6 rfl ?_
      refine a_three 0 1 2 (by kernel_rfl) rfl rfl rfl rfl rfl rfl ?_ ?_ ?_
      · apply s_val rfl rfl
        · exact r_loadN rfl rfl (flo_len u) (rdn_all 1 rfl)
        refine a_three 1 2 3 (by kernel_rfl) rfl rfl rfl rfl rfl rfl ?_ ?_ ?_
        · apply s_val rfl rfl
          · exact r_loadN rfl rfl (flo_len v) (rdn_all 0 rfl)
          refine a_two 2 3 (by kernel_rfl) rfl rfl rfl rfl ?_ ?_
          · apply s_val rfl rfl
            · exact RunS.v (r_move rfl)
            refine a_one 3 (by kernel_rfl) rfl rfl ?_
            · refine s_storeN (i := 1) (vs := (flo u).1) rfl rfl rfl (by rw [flo_len]; rfl) (flo_one _) (by rw [flo_len]; rfl) ?_
              rw [spl4 _ _ (flo_len _) (flo_len _)]
              refine a_one 4 (by kernel_rfl) rfl rfl ?_
              · refine s_storeN (i := 1) (vs := (flo v).1) rfl rfl rfl (by rw [flo_len]; rfl) (flo_one _) (by rw [flo_len]; rfl) ?_
                rw [spl4 _ _ (flo_len _) (flo_len _)]
                refine a_one 5 (by kernel_rfl) rfl rfl ?_
                · apply s_val rfl rfl
                  · exact RunS.v (r_assign rfl)
                  refine a_done (by kernel_rfl) ?_
                  repeat (first | refine wXD ?_ | intro b)
                  exact e_retAAT (vs := (flo u).1) (vs2 := (flo v).1) [] rfl rfl rfl rfl (flo_len _) (flo_len _) (rdn_all 1 rfl) (rdn_all 0 rfl) rfl ⟨by rw [prtT hok]; rfl, rfl⟩ (arr_ent 3 [] _)
          · refine s_storeN (i := 1) (vs := (flo u).1) rfl rfl rfl (by rw [flo_len]; rfl) (flo_one _) (by rw [flo_len]; rfl) ?_
            rw [spl4 _ _ (flo_len _) (flo_len _)]
            refine a_two 2 4 (by kernel_rfl) rfl rfl rfl rfl ?_ ?_
            · apply s_val rfl rfl
              · exact RunS.v (r_move rfl)
              refine a_one 4 (by kernel_rfl) rfl rfl ?_
              · refine s_storeN (i := 1) (vs := (flo v).1) rfl rfl rfl (by rw [flo_len]; rfl) (flo_one _) (by rw [flo_len]; rfl) ?_
                rw [spl4 _ _ (flo_len _) (flo_len _)]
                refine a_one 5 (by kernel_rfl) rfl rfl ?_
                · apply s_val rfl rfl
                  · exact RunS.v (r_assign rfl)
                  refine a_done (by kernel_rfl) ?_
                  repeat (first | refine wXD ?_ | intro b)
                  exact e_retAAT (vs := (flo u).1) (vs2 := (flo v).1) [] rfl rfl rfl rfl (flo_len _) (flo_len _) (rdn_all 1 rfl) (rdn_all 0 rfl) rfl ⟨by rw [prtT hok]; rfl, rfl⟩ (arr_ent 3 [] _)
            · refine s_storeN (i := 1) (vs := (flo v).1) rfl rfl rfl (by rw [flo_len]; rfl) (flo_one _) (by rw [flo_len]; rfl) ?_
              rw [spl4 _ _ (flo_len _) (flo_len _)]
              refine a_one 2 (by kernel_rfl) rfl rfl ?_
              · apply s_val rfl rfl
                · exact RunS.v (r_move rfl)
                refine a_one 5 (by kernel_rfl) rfl rfl ?_
                · apply s_val rfl rfl
                  · exact RunS.v (r_assign rfl)
                  refine a_done (by kernel_rfl) ?_
                  repeat (first | refine wXD ?_ | intro b)
                  exact e_retAAT (vs := (flo u).1) (vs2 := (flo v).1) [] rfl rfl rfl rfl (flo_len _) (flo_len _) (rdn_all 1 rfl) (rdn_all 0 rfl) rfl ⟨by rw [prtT hok]; rfl, rfl⟩ (arr_ent 3 [] _)
        · apply s_val rfl rfl
          · exact RunS.v (r_move rfl)
          refine a_two 1 3 (by kernel_rfl) rfl rfl rfl rfl ?_ ?_
          · apply s_val rfl rfl
            · exact r_loadN rfl rfl (flo_len v) (rdn_all 0 rfl)
            refine a_one 3 (by kernel_rfl) rfl rfl ?_
            · refine s_storeN (i := 1) (vs := (flo u).1) rfl rfl rfl (by rw [flo_len]; rfl) (flo_one _) (by rw [flo_len]; rfl) ?_
              rw [spl4 _ _ (flo_len _) (flo_len _)]
              refine a_one 4 (by kernel_rfl) rfl rfl ?_
              · refine s_storeN (i := 1) (vs := (flo v).1) rfl rfl rfl (by rw [flo_len]; rfl) (flo_one _) (by rw [flo_len]; rfl) ?_
                rw [spl4 _ _ (flo_len _) (flo_len _)]
                refine a_one 5 (by kernel_rfl) rfl rfl ?_
                · apply s_val rfl rfl
                  · exact RunS.v (r_assign rfl)
                  refine a_done (by kernel_rfl) ?_
                  repeat (first | refine wXD ?_ | intro b)
                  exact e_retAAT (vs := (flo u).1) (vs2 := (flo v).1) [] rfl rfl rfl rfl (flo_len _) (flo_len _) (rdn_all 1 rfl) (rdn_all 0 rfl) rfl ⟨by rw [prtT hok]; rfl, rfl⟩ (arr_ent 3 [] _)
          · refine s_storeN (i := 1) (vs := (flo u).1) rfl rfl rfl (by rw [flo_len]; rfl) (flo_one _) (by rw [flo_len]; rfl) ?_
            rw [spl4 _ _ (flo_len _) (flo_len _)]
            refine a_one 1 (by kernel_rfl) rfl rfl ?_
            · apply s_val rfl rfl
              · exact r_loadN rfl rfl (flo_len v) (rdn_all 1 rfl)
              refine a_one 4 (by kernel_rfl) rfl rfl ?_
              · refine s_storeN (i := 1) (vs := (flo v).1) rfl rfl rfl (by rw [flo_len]; rfl) (flo_one _) (by rw [flo_len]; rfl) ?_
                rw [spl4 _ _ (flo_len _) (flo_len _)]
                refine a_one 5 (by kernel_rfl) rfl rfl ?_
                · apply s_val rfl rfl
                  · exact RunS.v (r_assign rfl)
                  refine a_done (by kernel_rfl) ?_
                  repeat (first | refine wXD ?_ | intro b)
                  exact e_retAAT (vs := (flo u).1) (vs2 := (flo v).1) [] rfl rfl rfl rfl (flo_len _) (flo_len _) (rdn_all 1 rfl) (rdn_all 0 rfl) rfl ⟨by rw [prtT hok]; rfl, rfl⟩ (arr_ent 3 [] _)
        · refine s_storeN (i := 1) (vs := (flo u).1) rfl rfl rfl (by rw [flo_len]; rfl) (flo_one _) (by rw [flo_len]; rfl) ?_
          rw [spl4 _ _ (flo_len _) (flo_len _)]
          refine a_two 1 2 (by kernel_rfl) rfl rfl rfl rfl ?_ ?_
          · apply s_val rfl rfl
            · exact r_loadN rfl rfl (flo_len v) (rdn_all 1 rfl)
            refine a_two 2 4 (by kernel_rfl) rfl rfl rfl rfl ?_ ?_
            · apply s_val rfl rfl
              · exact RunS.v (r_move rfl)
              refine a_one 4 (by kernel_rfl) rfl rfl ?_
              · refine s_storeN (i := 1) (vs := (flo v).1) rfl rfl rfl (by rw [flo_len]; rfl) (flo_one _) (by rw [flo_len]; rfl) ?_
                rw [spl4 _ _ (flo_len _) (flo_len _)]
                refine a_one 5 (by kernel_rfl) rfl rfl ?_
                · apply s_val rfl rfl
                  · exact RunS.v (r_assign rfl)
                  refine a_done (by kernel_rfl) ?_
                  repeat (first | refine wXD ?_ | intro b)
                  exact e_retAAT (vs := (flo u).1) (vs2 := (flo v).1) [] rfl rfl rfl rfl (flo_len _) (flo_len _) (rdn_all 1 rfl) (rdn_all 0 rfl) rfl ⟨by rw [prtT hok]; rfl, rfl⟩ (arr_ent 3 [] _)
            · refine s_storeN (i := 1) (vs := (flo v).1) rfl rfl rfl (by rw [flo_len]; rfl) (flo_one _) (by rw [flo_len]; rfl) ?_
              rw [spl4 _ _ (flo_len _) (flo_len _)]
              refine a_one 2 (by kernel_rfl) rfl rfl ?_
              · apply s_val rfl rfl
                · exact RunS.v (r_move rfl)
                refine a_one 5 (by kernel_rfl) rfl rfl ?_
                · apply s_val rfl rfl
                  · exact RunS.v (r_assign rfl)
                  refine a_done (by kernel_rfl) ?_
                  repeat (first | refine wXD ?_ | intro b)
                  exact e_retAAT (vs := (flo u).1) (vs2 := (flo v).1) [] rfl rfl rfl rfl (flo_len _) (flo_len _) (rdn_all 1 rfl) (rdn_all 0 rfl) rfl ⟨by rw [prtT hok]; rfl, rfl⟩ (arr_ent 3 [] _)
          · apply s_val rfl rfl
            · exact RunS.v (r_move rfl)
            refine a_one 1 (by kernel_rfl) rfl rfl ?_
            · apply s_val rfl rfl
              · exact r_loadN rfl rfl (flo_len v) (rdn_all 1 rfl)
              refine a_one 4 (by kernel_rfl) rfl rfl ?_
              · refine s_storeN (i := 1) (vs := (flo v).1) rfl rfl rfl (by rw [flo_len]; rfl) (flo_one _) (by rw [flo_len]; rfl) ?_
                rw [spl4 _ _ (flo_len _) (flo_len _)]
                refine a_one 5 (by kernel_rfl) rfl rfl ?_
                · apply s_val rfl rfl
                  · exact RunS.v (r_assign rfl)
                  refine a_done (by kernel_rfl) ?_
                  repeat (first | refine wXD ?_ | intro b)
                  exact e_retAAT (vs := (flo u).1) (vs2 := (flo v).1) [] rfl rfl rfl rfl (flo_len _) (flo_len _) (rdn_all 1 rfl) (rdn_all 0 rfl) rfl ⟨by rw [prtT hok]; rfl, rfl⟩ (arr_ent 3 [] _)
      · apply s_val rfl rfl
        · exact r_loadN rfl rfl (flo_len v) (rdn_all 0 rfl)
        refine a_two 0 2 (by kernel_rfl) rfl rfl rfl rfl ?_ ?_
        · apply s_val rfl rfl
          · exact r_loadN rfl rfl (flo_len u) (rdn_all 1 rfl)
          refine a_two 2 3 (by kernel_rfl) rfl rfl rfl rfl ?_ ?_
          · apply s_val rfl rfl
            · exact RunS.v (r_move rfl)
            refine a_one 3 (by kernel_rfl) rfl rfl ?_
            · refine s_storeN (i := 1) (vs := (flo u).1) rfl rfl rfl (by rw [flo_len]; rfl) (flo_one _) (by rw [flo_len]; rfl) ?_
              rw [spl4 _ _ (flo_len _) (flo_len _)]
              refine a_one 4 (by kernel_rfl) rfl rfl ?_
              · refine s_storeN (i := 1) (vs := (flo v).1) rfl rfl rfl (by rw [flo_len]; rfl) (flo_one _) (by rw [flo_len]; rfl) ?_
                rw [spl4 _ _ (flo_len _) (flo_len _)]
                refine a_one 5 (by kernel_rfl) rfl rfl ?_
                · apply s_val rfl rfl
                  · exact RunS.v (r_assign rfl)
                  refine a_done (by kernel_rfl) ?_
                  repeat (first | refine wXD ?_ | intro b)
                  exact e_retAAT (vs := (flo u).1) (vs2 := (flo v).1) [] rfl rfl rfl rfl (flo_len _) (flo_len _) (rdn_all 1 rfl) (rdn_all 0 rfl) rfl ⟨by rw [prtT hok]; rfl, rfl⟩ (arr_ent 3 [] _)
          · refine s_storeN (i := 1) (vs := (flo u).1) rfl rfl rfl (by rw [flo_len]; rfl) (flo_one _) (by rw [flo_len]; rfl) ?_
            rw [spl4 _ _ (flo_len _) (flo_len _)]
            refine a_two 2 4 (by kernel_rfl) rfl rfl rfl rfl ?_ ?_
            · apply s_val rfl rfl
              · exact RunS.v (r_move rfl)
              refine a_one 4 (by kernel_rfl) rfl rfl ?_
              · refine s_storeN (i := 1) (vs := (flo v).1) rfl rfl rfl (by rw [flo_len]; rfl) (flo_one _) (by rw [flo_len]; rfl) ?_
                rw [spl4 _ _ (flo_len _) (flo_len _)]
                refine a_one 5 (by kernel_rfl) rfl rfl ?_
                · apply s_val rfl rfl
                  · exact RunS.v (r_assign rfl)
                  refine a_done (by kernel_rfl) ?_
                  repeat (first | refine wXD ?_ | intro b)
                  exact e_retAAT (vs := (flo u).1) (vs2 := (flo v).1) [] rfl rfl rfl rfl (flo_len _) (flo_len _) (rdn_all 1 rfl) (rdn_all 0 rfl) rfl ⟨by rw [prtT hok]; rfl, rfl⟩ (arr_ent 3 [] _)
            · refine s_storeN (i := 1) (vs := (flo v).1) rfl rfl rfl (by rw [flo_len]; rfl) (flo_one _) (by rw [flo_len]; rfl) ?_
              rw [spl4 _ _ (flo_len _) (flo_len _)]
              refine a_one 2 (by kernel_rfl) rfl rfl ?_
              · apply s_val rfl rfl
                · exact RunS.v (r_move rfl)
                refine a_one 5 (by kernel_rfl) rfl rfl ?_
                · apply s_val rfl rfl
                  · exact RunS.v (r_assign rfl)
                  refine a_done (by kernel_rfl) ?_
                  repeat (first | refine wXD ?_ | intro b)
                  exact e_retAAT (vs := (flo u).1) (vs2 := (flo v).1) [] rfl rfl rfl rfl (flo_len _) (flo_len _) (rdn_all 1 rfl) (rdn_all 0 rfl) rfl ⟨by rw [prtT hok]; rfl, rfl⟩ (arr_ent 3 [] _)
        · apply s_val rfl rfl
          · exact RunS.v (r_move rfl)
          refine a_one 0 (by kernel_rfl) rfl rfl ?_
          · apply s_val rfl rfl
            · exact r_loadN rfl rfl (flo_len u) (rdn_all 1 rfl)
            refine a_one 3 (by kernel_rfl) rfl rfl ?_
            · refine s_storeN (i := 1) (vs := (flo u).1) rfl rfl rfl (by rw [flo_len]; rfl) (flo_one _) (by rw [flo_len]; rfl) ?_
              rw [spl4 _ _ (flo_len _) (flo_len _)]
              refine a_one 4 (by kernel_rfl) rfl rfl ?_
              · refine s_storeN (i := 1) (vs := (flo v).1) rfl rfl rfl (by rw [flo_len]; rfl) (flo_one _) (by rw [flo_len]; rfl) ?_
                rw [spl4 _ _ (flo_len _) (flo_len _)]
                refine a_one 5 (by kernel_rfl) rfl rfl ?_
                · apply s_val rfl rfl
                  · exact RunS.v (r_assign rfl)
                  refine a_done (by kernel_rfl) ?_
                  repeat (first | refine wXD ?_ | intro b)
                  exact e_retAAT (vs := (flo u).1) (vs2 := (flo v).1) [] rfl rfl rfl rfl (flo_len _) (flo_len _) (rdn_all 1 rfl) (rdn_all 0 rfl) rfl ⟨by rw [prtT hok]; rfl, rfl⟩ (arr_ent 3 [] _)
      · apply s_val rfl rfl
        · exact RunS.v (r_move rfl)
        refine a_two 0 1 (by kernel_rfl) rfl rfl rfl rfl ?_ ?_
        · apply s_val rfl rfl
          · exact r_loadN rfl rfl (flo_len u) (rdn_all 1 rfl)
          refine a_two 1 3 (by kernel_rfl) rfl rfl rfl rfl ?_ ?_
          · apply s_val rfl rfl
            · exact r_loadN rfl rfl (flo_len v) (rdn_all 0 rfl)
            refine a_one 3 (by kernel_rfl) rfl rfl ?_
            · refine s_storeN (i := 1) (vs := (flo u).1) rfl rfl rfl (by rw [flo_len]; rfl) (flo_one _) (by rw [flo_len]; rfl) ?_
              rw [spl4 _ _ (flo_len _) (flo_len _)]
              refine a_one 4 (by kernel_rfl) rfl rfl ?_
              · refine s_storeN (i := 1) (vs := (flo v).1) rfl rfl rfl (by rw [flo_len]; rfl) (flo_one _) (by rw [flo_len]; rfl) ?_
                rw [spl4 _ _ (flo_len _) (flo_len _)]
                refine a_one 5 (by kernel_rfl) rfl rfl ?_
                · apply s_val rfl rfl
                  · exact RunS.v (r_assign rfl)
                  refine a_done (by kernel_rfl) ?_
                  repeat (first | refine wXD ?_ | intro b)
                  exact e_retAAT (vs := (flo u).1) (vs2 := (flo v).1) [] rfl rfl rfl rfl (flo_len _) (flo_len _) (rdn_all 1 rfl) (rdn_all 0 rfl) rfl ⟨by rw [prtT hok]; rfl, rfl⟩ (arr_ent 3 [] _)
          · refine s_storeN (i := 1) (vs := (flo u).1) rfl rfl rfl (by rw [flo_len]; rfl) (flo_one _) (by rw [flo_len]; rfl) ?_
            rw [spl4 _ _ (flo_len _) (flo_len _)]
            refine a_one 1 (by kernel_rfl) rfl rfl ?_
            · apply s_val rfl rfl
              · exact r_loadN rfl rfl (flo_len v) (rdn_all 1 rfl)
              refine a_one 4 (by kernel_rfl) rfl rfl ?_
              · refine s_storeN (i := 1) (vs := (flo v).1) rfl rfl rfl (by rw [flo_len]; rfl) (flo_one _) (by rw [flo_len]; rfl) ?_
                rw [spl4 _ _ (flo_len _) (flo_len _)]
                refine a_one 5 (by kernel_rfl) rfl rfl ?_
                · apply s_val rfl rfl
                  · exact RunS.v (r_assign rfl)
                  refine a_done (by kernel_rfl) ?_
                  repeat (first | refine wXD ?_ | intro b)
                  exact e_retAAT (vs := (flo u).1) (vs2 := (flo v).1) [] rfl rfl rfl rfl (flo_len _) (flo_len _) (rdn_all 1 rfl) (rdn_all 0 rfl) rfl ⟨by rw [prtT hok]; rfl, rfl⟩ (arr_ent 3 [] _)
        · apply s_val rfl rfl
          · exact r_loadN rfl rfl (flo_len v) (rdn_all 0 rfl)
          refine a_one 0 (by kernel_rfl) rfl rfl ?_
          · apply s_val rfl rfl
            · exact r_loadN rfl rfl (flo_len u) (rdn_all 1 rfl)
            refine a_one 3 (by kernel_rfl) rfl rfl ?_
            · refine s_storeN (i := 1) (vs := (flo u).1) rfl rfl rfl (by rw [flo_len]; rfl) (flo_one _) (by rw [flo_len]; rfl) ?_
              rw [spl4 _ _ (flo_len _) (flo_len _)]
              refine a_one 4 (by kernel_rfl) rfl rfl ?_
              · refine s_storeN (i := 1) (vs := (flo v).1) rfl rfl rfl (by rw [flo_len]; rfl) (flo_one _) (by rw [flo_len]; rfl) ?_
                rw [spl4 _ _ (flo_len _) (flo_len _)]
                refine a_one 5 (by kernel_rfl) rfl rfl ?_
                · apply s_val rfl rfl
                  · exact RunS.v (r_assign rfl)
                  refine a_done (by kernel_rfl) ?_
                  repeat (first | refine wXD ?_ | intro b)
                  exact e_retAAT (vs := (flo u).1) (vs2 := (flo v).1) [] rfl rfl rfl rfl (flo_len _) (flo_len _) (rdn_all 1 rfl) (rdn_all 0 rfl) rfl ⟨by rw [prtT hok]; rfl, rfl⟩ (arr_ent 3 [] _)
  all_goals exact absurd hc (by simp [kCls])
end Go.Proofs.YtfebpbflpdppiaaDoor
