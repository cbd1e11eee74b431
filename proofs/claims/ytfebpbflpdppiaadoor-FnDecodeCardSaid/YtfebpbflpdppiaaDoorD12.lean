/- The walk over Alike, of a list and itself. Printed by a program (wip/tools/genD12.py). -/

import Derived.Test.YtfebpbflpdppiaaDoorD11
import Derived.Test.YtfebpbflpdppiaaDoorWz
namespace Go.Proofs.YtfebpbflpdppiaaDoor
open Go Go.Sl
set_option maxRecDepth 100000
attribute [local irreducible] wpList Code.wp Exit.then Exit.inBlock bodyPost RunS RunV G St Ct Sat Ent At Rd GQ QL wpAny wpOp wpQuiet slP Sl.ex sep
attribute [local irreducible] scL
set_option maxHeartbeats 40000000 in
theorem Alike_c (a1 a2 : Option Addr) (c1 c2 : Nat) (l : List Sc) (hw : ∀ s ∈ l, s.wf) : Ct Tryd.prog 10 #[.slice a1 l.length c1, .slice a2 l.length c2] [slP (.slice a1 l.length c1) 36 6 (l.flatMap scL), slP (.slice a2 l.length c2) 36 6 (l.flatMap scL)] (fun v B => v = .bool true ∧ B = []) nev := by
  refine Ct.of Tryd.func10 rfl Tryd.ntmps10 rfl fun m F => ?_
  refine slP_len fun _ hlc hcm => ?_
  have hml : maxLen ≤ 9223372036854775807 := by unfold maxLen; omega
  repeat (first | refine wWD ?_ | intro b)
  rw [show decide ((l.length : Int) = (l.length : Int)) = true from decide_eq_true rfl]
  repeat (first | refine wWD ?_ | intro b)
  refine c_loop (α := Nat) (fun i => [(0, .slice a1 l.length c1), (1, .slice a2 l.length c2), (16, .int .i64 (l.length : Nat)), (17, .int .i64 (i : Nat))]) (fun _ => slP (.slice a1 l.length c1) 36 6 (l.flatMap scL) :: slP (.slice a2 l.length c2) 36 6 (l.flatMap scL) :: F) (fun i => i ≤ l.length) (fun i => l.length - i) 0 (Nat.zero_le _) ⟨rfl, rfl, rfl, rfl, trivial⟩ (Ent.refl _) ?_
  intro i hi
  repeat (first | refine wWD ?_ | intro b)
  refine c_cond rfl (fun h => ?_) (fun h => ?_)
  rotate_left
  · repeat (first | refine wWD ?_ | intro b)
    exact e_ret1 [] rfl rfl ⟨rfl, rfl⟩ (arr_ent 2 [] _)
  have h := of_decide_eq_true h
  refine scs_some (i := i) (by omega) fun s1 s hsb hs => ?_
  subst hsb
  refine G.ent (arr_ent 0 [1, 0] _) ?_
  refine scs_some (i := i) (by omega) fun s2 s' hsb hs' => ?_
  subst hsb
  have hsw := hw s (List.mem_of_getElem? hs)
  refine G.ent (L' := slP (.slice (some ⟨s1, 0, none⟩) l.length c1) 36 6 (l.flatMap scL) :: slP (.slice (some ⟨s2, 0, none⟩) l.length c2) 36 6 (l.flatMap scL) :: F) (arr_ent 0 [1, 0] _) ?_
  repeat (first | refine wXD ?_ | intro b)
  refine c_mid (α := Nat × Nat) (fun z => [(0, .slice (some ⟨s1, 0, none⟩) l.length c1), (1, .slice (some ⟨s2, 0, none⟩) l.length c2), (16, .int .i64 (l.length : Nat)), (17, .int .i64 (i : Nat)), (6, .pointer (some ⟨z.1, 0, none⟩)), (7, .pointer (some ⟨z.2, 0, none⟩))]) (fun z => blk z.1 (cl (scL s) 36) :: blk z.2 (cl (scL s) 36) :: slP (.slice (some ⟨s1, 0, none⟩) l.length c1) 36 6 (l.flatMap scL) :: slP (.slice (some ⟨s2, 0, none⟩) l.length c2) 36 6 (l.flatMap scL) :: F) (fun _ => True) ?_ ?_
  · refine c_any 12 rfl ?_
    refine a_takeP 0 rfl (by kernel_rfl) (by kernel_rfl) (by kernel_rfl) rfl rfl rfl (by repeat (first | exact pi_body | refine pi_then ?_ | refine pi_block ?_ | refine pi_jump ?_)) (r_move rfl) ?_
    refine a_takeP 1 rfl (by kernel_rfl) (by kernel_rfl) (by kernel_rfl) rfl rfl rfl (by repeat (first | exact pi_body | refine pi_then ?_ | refine pi_block ?_ | refine pi_jump ?_)) (r_move rfl) ?_
    refine a_takeP 2 rfl (by kernel_rfl) (by kernel_rfl) (by kernel_rfl) rfl rfl rfl (by repeat (first | exact pi_body | refine pi_then ?_ | refine pi_block ?_ | refine pi_jump ?_)) (r_index (i := i) rfl rfl rfl (by omega)) ?_
    rw [Nat.zero_add]
    refine a_takeP 4 rfl (by kernel_rfl) (by kernel_rfl) (by kernel_rfl) rfl rfl rfl (by repeat (first | exact pi_body | refine pi_then ?_ | refine pi_block ?_ | refine pi_jump ?_)) (r_move rfl) ?_
    refine a_takeP 5 rfl (by kernel_rfl) (by kernel_rfl) (by kernel_rfl) rfl rfl rfl (by repeat (first | exact pi_body | refine pi_then ?_ | refine pi_block ?_ | refine pi_jump ?_)) (r_move rfl) ?_
    refine a_takeP 6 rfl (by kernel_rfl) (by kernel_rfl) (by kernel_rfl) rfl rfl rfl (by repeat (first | exact pi_body | refine pi_then ?_ | refine pi_block ?_ | refine pi_jump ?_)) (r_index (i := i) rfl rfl rfl (by omega)) ?_
    rw [Nat.zero_add]
    refine a_four 3 7 8 9 (by kernel_rfl) rfl rfl rfl rfl rfl rfl rfl rfl ?_ ?_ ?_ ?_
    · apply s_val rfl rfl
      · exact r_loadN rfl rfl (scL_len s) (scs_at hs (j := 0) rfl)
      refine a_three 7 8 9 (by kernel_rfl) rfl rfl rfl rfl rfl rfl ?_ ?_ ?_
      · apply s_val rfl rfl
        · exact r_loadN rfl rfl (scL_len s) (scs_at hs (j := 1) rfl)
        refine a_two 8 9 (by kernel_rfl) rfl rfl rfl rfl ?_ ?_
        · refine s_alloc (l := zero6) rfl rfl fun x6 => ?_
          refine a_one 9 (by kernel_rfl) rfl rfl ?_
          · refine s_alloc (l := zero6) rfl rfl fun x7 => ?_
            refine a_one 10 (by kernel_rfl) rfl rfl ?_
            · refine s_storeN (i := 1) (vs := scL s) rfl rfl rfl (by rw [scL_len]; rfl) (scL_one s) (by rw [scL_len]; rfl) ?_
              rw [spl6]
              refine a_one 11 (by kernel_rfl) rfl rfl ?_
              · refine s_storeN (i := 1) (vs := scL s) rfl rfl rfl (by rw [scL_len]; rfl) (scL_one s) (by rw [scL_len]; rfl) ?_
                rw [spl6]
                refine a_done (by kernel_rfl) ?_
                refine q_then_n ?_
                exact at_intro (x6, x7) trivial ⟨rfl, rfl, rfl, rfl, rfl, rfl, trivial⟩ (arr_ent 0 [1, 0, 0, 0] _)
        · refine s_alloc (l := zero6) rfl rfl fun x7 => ?_
          refine a_one 8 (by kernel_rfl) rfl rfl ?_
          · refine s_alloc (l := zero6) rfl rfl fun x6 => ?_
            refine a_one 10 (by kernel_rfl) rfl rfl ?_
            · refine s_storeN (i := 0) (vs := scL s) rfl rfl rfl (by rw [scL_len]; rfl) (scL_one s) (by rw [scL_len]; rfl) ?_
              rw [spl6]
              refine a_one 11 (by kernel_rfl) rfl rfl ?_
              · refine s_storeN (i := 1) (vs := scL s) rfl rfl rfl (by rw [scL_len]; rfl) (scL_one s) (by rw [scL_len]; rfl) ?_
                rw [spl6]
                refine a_done (by kernel_rfl) ?_
                refine q_then_n ?_
                exact at_intro (x6, x7) trivial ⟨rfl, rfl, rfl, rfl, rfl, rfl, trivial⟩ (arr_ent 0 [1, 0, 0, 0] _)
      · refine s_alloc (l := zero6) rfl rfl fun x6 => ?_
        refine a_two 7 9 (by kernel_rfl) rfl rfl rfl rfl ?_ ?_
        · apply s_val rfl rfl
          · exact r_loadN rfl rfl (scL_len s) (scs_at hs (j := 2) rfl)
          refine a_one 9 (by kernel_rfl) rfl rfl ?_
          · refine s_alloc (l := zero6) rfl rfl fun x7 => ?_
            refine a_one 10 (by kernel_rfl) rfl rfl ?_
            · refine s_storeN (i := 1) (vs := scL s) rfl rfl rfl (by rw [scL_len]; rfl) (scL_one s) (by rw [scL_len]; rfl) ?_
              rw [spl6]
              refine a_one 11 (by kernel_rfl) rfl rfl ?_
              · refine s_storeN (i := 1) (vs := scL s) rfl rfl rfl (by rw [scL_len]; rfl) (scL_one s) (by rw [scL_len]; rfl) ?_
                rw [spl6]
                refine a_done (by kernel_rfl) ?_
                refine q_then_n ?_
                exact at_intro (x6, x7) trivial ⟨rfl, rfl, rfl, rfl, rfl, rfl, trivial⟩ (arr_ent 0 [1, 0, 0, 0] _)
        · refine s_alloc (l := zero6) rfl rfl fun x7 => ?_
          refine a_two 7 10 (by kernel_rfl) rfl rfl rfl rfl ?_ ?_
          · apply s_val rfl rfl
            · exact r_loadN rfl rfl (scL_len s) (scs_at hs (j := 3) rfl)
            refine a_one 10 (by kernel_rfl) rfl rfl ?_
            · refine s_storeN (i := 1) (vs := scL s) rfl rfl rfl (by rw [scL_len]; rfl) (scL_one s) (by rw [scL_len]; rfl) ?_
              rw [spl6]
              refine a_one 11 (by kernel_rfl) rfl rfl ?_
              · refine s_storeN (i := 1) (vs := scL s) rfl rfl rfl (by rw [scL_len]; rfl) (scL_one s) (by rw [scL_len]; rfl) ?_
                rw [spl6]
                refine a_done (by kernel_rfl) ?_
                refine q_then_n ?_
                exact at_intro (x6, x7) trivial ⟨rfl, rfl, rfl, rfl, rfl, rfl, trivial⟩ (arr_ent 0 [1, 0, 0, 0] _)
          · refine s_storeN (i := 1) (vs := scL s) rfl rfl rfl (by rw [scL_len]; rfl) (scL_one s) (by rw [scL_len]; rfl) ?_
            rw [spl6]
            refine a_one 7 (by kernel_rfl) rfl rfl ?_
            · apply s_val rfl rfl
              · exact r_loadN rfl rfl (scL_len s) (scs_at hs (j := 3) rfl)
              refine a_one 11 (by kernel_rfl) rfl rfl ?_
              · refine s_storeN (i := 1) (vs := scL s) rfl rfl rfl (by rw [scL_len]; rfl) (scL_one s) (by rw [scL_len]; rfl) ?_
                rw [spl6]
                refine a_done (by kernel_rfl) ?_
                refine q_then_n ?_
                exact at_intro (x6, x7) trivial ⟨rfl, rfl, rfl, rfl, rfl, rfl, trivial⟩ (arr_ent 0 [1, 0, 0, 0] _)
      · refine s_alloc (l := zero6) rfl rfl fun x7 => ?_
        refine a_two 7 8 (by kernel_rfl) rfl rfl rfl rfl ?_ ?_
        · apply s_val rfl rfl
          · exact r_loadN rfl rfl (scL_len s) (scs_at hs (j := 2) rfl)
          refine a_one 8 (by kernel_rfl) rfl rfl ?_
          · refine s_alloc (l := zero6) rfl rfl fun x6 => ?_
            refine a_one 10 (by kernel_rfl) rfl rfl ?_
            · refine s_storeN (i := 0) (vs := scL s) rfl rfl rfl (by rw [scL_len]; rfl) (scL_one s) (by rw [scL_len]; rfl) ?_
              rw [spl6]
              refine a_one 11 (by kernel_rfl) rfl rfl ?_
              · refine s_storeN (i := 1) (vs := scL s) rfl rfl rfl (by rw [scL_len]; rfl) (scL_one s) (by rw [scL_len]; rfl) ?_
                rw [spl6]
                refine a_done (by kernel_rfl) ?_
                refine q_then_n ?_
                exact at_intro (x6, x7) trivial ⟨rfl, rfl, rfl, rfl, rfl, rfl, trivial⟩ (arr_ent 0 [1, 0, 0, 0] _)
        · refine s_alloc (l := zero6) rfl rfl fun x6 => ?_
          refine a_two 7 10 (by kernel_rfl) rfl rfl rfl rfl ?_ ?_
          · apply s_val rfl rfl
            · exact r_loadN rfl rfl (scL_len s) (scs_at hs (j := 3) rfl)
            refine a_one 10 (by kernel_rfl) rfl rfl ?_
            · refine s_storeN (i := 0) (vs := scL s) rfl rfl rfl (by rw [scL_len]; rfl) (scL_one s) (by rw [scL_len]; rfl) ?_
              rw [spl6]
              refine a_one 11 (by kernel_rfl) rfl rfl ?_
              · refine s_storeN (i := 1) (vs := scL s) rfl rfl rfl (by rw [scL_len]; rfl) (scL_one s) (by rw [scL_len]; rfl) ?_
                rw [spl6]
                refine a_done (by kernel_rfl) ?_
                refine q_then_n ?_
                exact at_intro (x6, x7) trivial ⟨rfl, rfl, rfl, rfl, rfl, rfl, trivial⟩ (arr_ent 0 [1, 0, 0, 0] _)
          · refine s_storeN (i := 0) (vs := scL s) rfl rfl rfl (by rw [scL_len]; rfl) (scL_one s) (by rw [scL_len]; rfl) ?_
            rw [spl6]
            refine a_one 7 (by kernel_rfl) rfl rfl ?_
            · apply s_val rfl rfl
              · exact r_loadN rfl rfl (scL_len s) (scs_at hs (j := 3) rfl)
              refine a_one 11 (by kernel_rfl) rfl rfl ?_
              · refine s_storeN (i := 1) (vs := scL s) rfl rfl rfl (by rw [scL_len]; rfl) (scL_one s) (by rw [scL_len]; rfl) ?_
                rw [spl6]
                refine a_done (by kernel_rfl) ?_
                refine q_then_n ?_
                exact at_intro (x6, x7) trivial ⟨rfl, rfl, rfl, rfl, rfl, rfl, trivial⟩ (arr_ent 0 [1, 0, 0, 0] _)
    · apply s_val rfl rfl
      · exact r_loadN rfl rfl (scL_len s) (scs_at hs (j := 1) rfl)
      refine a_three 3 8 9 (by kernel_rfl) rfl rfl rfl rfl rfl rfl ?_ ?_ ?_
      · apply s_val rfl rfl
        · exact r_loadN rfl rfl (scL_len s) (scs_at hs (j := 0) rfl)
        refine a_two 8 9 (by kernel_rfl) rfl rfl rfl rfl ?_ ?_
        · refine s_alloc (l := zero6) rfl rfl fun x6 => ?_
          refine a_one 9 (by kernel_rfl) rfl rfl ?_
          · refine s_alloc (l := zero6) rfl rfl fun x7 => ?_
            refine a_one 10 (by kernel_rfl) rfl rfl ?_
            · refine s_storeN (i := 1) (vs := scL s) rfl rfl rfl (by rw [scL_len]; rfl) (scL_one s) (by rw [scL_len]; rfl) ?_
              rw [spl6]
              refine a_one 11 (by kernel_rfl) rfl rfl ?_
              · refine s_storeN (i := 1) (vs := scL s) rfl rfl rfl (by rw [scL_len]; rfl) (scL_one s) (by rw [scL_len]; rfl) ?_
                rw [spl6]
                refine a_done (by kernel_rfl) ?_
                refine q_then_n ?_
                exact at_intro (x6, x7) trivial ⟨rfl, rfl, rfl, rfl, rfl, rfl, trivial⟩ (arr_ent 0 [1, 0, 0, 0] _)
        · refine s_alloc (l := zero6) rfl rfl fun x7 => ?_
          refine a_one 8 (by kernel_rfl) rfl rfl ?_
          · refine s_alloc (l := zero6) rfl rfl fun x6 => ?_
            refine a_one 10 (by kernel_rfl) rfl rfl ?_
            · refine s_storeN (i := 0) (vs := scL s) rfl rfl rfl (by rw [scL_len]; rfl) (scL_one s) (by rw [scL_len]; rfl) ?_
              rw [spl6]
              refine a_one 11 (by kernel_rfl) rfl rfl ?_
              · refine s_storeN (i := 1) (vs := scL s) rfl rfl rfl (by rw [scL_len]; rfl) (scL_one s) (by rw [scL_len]; rfl) ?_
                rw [spl6]
                refine a_done (by kernel_rfl) ?_
                refine q_then_n ?_
                exact at_intro (x6, x7) trivial ⟨rfl, rfl, rfl, rfl, rfl, rfl, trivial⟩ (arr_ent 0 [1, 0, 0, 0] _)
      · refine s_alloc (l := zero6) rfl rfl fun x6 => ?_
        refine a_two 3 9 (by kernel_rfl) rfl rfl rfl rfl ?_ ?_
        · apply s_val rfl rfl
          · exact r_loadN rfl rfl (scL_len s) (scs_at hs (j := 1) rfl)
          refine a_one 9 (by kernel_rfl) rfl rfl ?_
          · refine s_alloc (l := zero6) rfl rfl fun x7 => ?_
            refine a_one 10 (by kernel_rfl) rfl rfl ?_
            · refine s_storeN (i := 1) (vs := scL s) rfl rfl rfl (by rw [scL_len]; rfl) (scL_one s) (by rw [scL_len]; rfl) ?_
              rw [spl6]
              refine a_one 11 (by kernel_rfl) rfl rfl ?_
              · refine s_storeN (i := 1) (vs := scL s) rfl rfl rfl (by rw [scL_len]; rfl) (scL_one s) (by rw [scL_len]; rfl) ?_
                rw [spl6]
                refine a_done (by kernel_rfl) ?_
                refine q_then_n ?_
                exact at_intro (x6, x7) trivial ⟨rfl, rfl, rfl, rfl, rfl, rfl, trivial⟩ (arr_ent 0 [1, 0, 0, 0] _)
        · refine s_alloc (l := zero6) rfl rfl fun x7 => ?_
          refine a_one 3 (by kernel_rfl) rfl rfl ?_
          · apply s_val rfl rfl
            · exact r_loadN rfl rfl (scL_len s) (scs_at hs (j := 2) rfl)
            refine a_one 10 (by kernel_rfl) rfl rfl ?_
            · refine s_storeN (i := 1) (vs := scL s) rfl rfl rfl (by rw [scL_len]; rfl) (scL_one s) (by rw [scL_len]; rfl) ?_
              rw [spl6]
              refine a_one 11 (by kernel_rfl) rfl rfl ?_
              · refine s_storeN (i := 1) (vs := scL s) rfl rfl rfl (by rw [scL_len]; rfl) (scL_one s) (by rw [scL_len]; rfl) ?_
                rw [spl6]
                refine a_done (by kernel_rfl) ?_
                refine q_then_n ?_
                exact at_intro (x6, x7) trivial ⟨rfl, rfl, rfl, rfl, rfl, rfl, trivial⟩ (arr_ent 0 [1, 0, 0, 0] _)
      · refine s_alloc (l := zero6) rfl rfl fun x7 => ?_
        refine a_two 3 8 (by kernel_rfl) rfl rfl rfl rfl ?_ ?_
        · apply s_val rfl rfl
          · exact r_loadN rfl rfl (scL_len s) (scs_at hs (j := 1) rfl)
          refine a_one 8 (by kernel_rfl) rfl rfl ?_
          · refine s_alloc (l := zero6) rfl rfl fun x6 => ?_
            refine a_one 10 (by kernel_rfl) rfl rfl ?_
            · refine s_storeN (i := 0) (vs := scL s) rfl rfl rfl (by rw [scL_len]; rfl) (scL_one s) (by rw [scL_len]; rfl) ?_
              rw [spl6]
              refine a_one 11 (by kernel_rfl) rfl rfl ?_
              · refine s_storeN (i := 1) (vs := scL s) rfl rfl rfl (by rw [scL_len]; rfl) (scL_one s) (by rw [scL_len]; rfl) ?_
                rw [spl6]
                refine a_done (by kernel_rfl) ?_
                refine q_then_n ?_
                exact at_intro (x6, x7) trivial ⟨rfl, rfl, rfl, rfl, rfl, rfl, trivial⟩ (arr_ent 0 [1, 0, 0, 0] _)
        · refine s_alloc (l := zero6) rfl rfl fun x6 => ?_
          refine a_one 3 (by kernel_rfl) rfl rfl ?_
          · apply s_val rfl rfl
            · exact r_loadN rfl rfl (scL_len s) (scs_at hs (j := 2) rfl)
            refine a_one 10 (by kernel_rfl) rfl rfl ?_
            · refine s_storeN (i := 0) (vs := scL s) rfl rfl rfl (by rw [scL_len]; rfl) (scL_one s) (by rw [scL_len]; rfl) ?_
              rw [spl6]
              refine a_one 11 (by kernel_rfl) rfl rfl ?_
              · refine s_storeN (i := 1) (vs := scL s) rfl rfl rfl (by rw [scL_len]; rfl) (scL_one s) (by rw [scL_len]; rfl) ?_
                rw [spl6]
                refine a_done (by kernel_rfl) ?_
                refine q_then_n ?_
                exact at_intro (x6, x7) trivial ⟨rfl, rfl, rfl, rfl, rfl, rfl, trivial⟩ (arr_ent 0 [1, 0, 0, 0] _)
    · refine s_alloc (l := zero6) rfl rfl fun x6 => ?_
      refine a_three 3 7 9 (by kernel_rfl) rfl rfl rfl rfl rfl rfl ?_ ?_ ?_
      · apply s_val rfl rfl
        · exact r_loadN rfl rfl (scL_len s) (scs_at hs (j := 1) rfl)
        refine a_two 7 9 (by kernel_rfl) rfl rfl rfl rfl ?_ ?_
        · apply s_val rfl rfl
          · exact r_loadN rfl rfl (scL_len s) (scs_at hs (j := 2) rfl)
          refine a_one 9 (by kernel_rfl) rfl rfl ?_
          · refine s_alloc (l := zero6) rfl rfl fun x7 => ?_
            refine a_one 10 (by kernel_rfl) rfl rfl ?_
            · refine s_storeN (i := 1) (vs := scL s) rfl rfl rfl (by rw [scL_len]; rfl) (scL_one s) (by rw [scL_len]; rfl) ?_
              rw [spl6]
              refine a_one 11 (by kernel_rfl) rfl rfl ?_
              · refine s_storeN (i := 1) (vs := scL s) rfl rfl rfl (by rw [scL_len]; rfl) (scL_one s) (by rw [scL_len]; rfl) ?_
                rw [spl6]
                refine a_done (by kernel_rfl) ?_
                refine q_then_n ?_
                exact at_intro (x6, x7) trivial ⟨rfl, rfl, rfl, rfl, rfl, rfl, trivial⟩ (arr_ent 0 [1, 0, 0, 0] _)
        · refine s_alloc (l := zero6) rfl rfl fun x7 => ?_
          refine a_two 7 10 (by kernel_rfl) rfl rfl rfl rfl ?_ ?_
          · apply s_val rfl rfl
            · exact r_loadN rfl rfl (scL_len s) (scs_at hs (j := 3) rfl)
            refine a_one 10 (by kernel_rfl) rfl rfl ?_
            · refine s_storeN (i := 1) (vs := scL s) rfl rfl rfl (by rw [scL_len]; rfl) (scL_one s) (by rw [scL_len]; rfl) ?_
              rw [spl6]
              refine a_one 11 (by kernel_rfl) rfl rfl ?_
              · refine s_storeN (i := 1) (vs := scL s) rfl rfl rfl (by rw [scL_len]; rfl) (scL_one s) (by rw [scL_len]; rfl) ?_
                rw [spl6]
                refine a_done (by kernel_rfl) ?_
                refine q_then_n ?_
                exact at_intro (x6, x7) trivial ⟨rfl, rfl, rfl, rfl, rfl, rfl, trivial⟩ (arr_ent 0 [1, 0, 0, 0] _)
          · refine s_storeN (i := 1) (vs := scL s) rfl rfl rfl (by rw [scL_len]; rfl) (scL_one s) (by rw [scL_len]; rfl) ?_
            rw [spl6]
            refine a_one 7 (by kernel_rfl) rfl rfl ?_
            · apply s_val rfl rfl
              · exact r_loadN rfl rfl (scL_len s) (scs_at hs (j := 3) rfl)
              refine a_one 11 (by kernel_rfl) rfl rfl ?_
              · refine s_storeN (i := 1) (vs := scL s) rfl rfl rfl (by rw [scL_len]; rfl) (scL_one s) (by rw [scL_len]; rfl) ?_
                rw [spl6]
                refine a_done (by kernel_rfl) ?_
                refine q_then_n ?_
                exact at_intro (x6, x7) trivial ⟨rfl, rfl, rfl, rfl, rfl, rfl, trivial⟩ (arr_ent 0 [1, 0, 0, 0] _)
      · apply s_val rfl rfl
        · exact r_loadN rfl rfl (scL_len s) (scs_at hs (j := 2) rfl)
        refine a_two 3 9 (by kernel_rfl) rfl rfl rfl rfl ?_ ?_
        · apply s_val rfl rfl
          · exact r_loadN rfl rfl (scL_len s) (scs_at hs (j := 1) rfl)
          refine a_one 9 (by kernel_rfl) rfl rfl ?_
          · refine s_alloc (l := zero6) rfl rfl fun x7 => ?_
            refine a_one 10 (by kernel_rfl) rfl rfl ?_
            · refine s_storeN (i := 1) (vs := scL s) rfl rfl rfl (by rw [scL_len]; rfl) (scL_one s) (by rw [scL_len]; rfl) ?_
              rw [spl6]
              refine a_one 11 (by kernel_rfl) rfl rfl ?_
              · refine s_storeN (i := 1) (vs := scL s) rfl rfl rfl (by rw [scL_len]; rfl) (scL_one s) (by rw [scL_len]; rfl) ?_
                rw [spl6]
                refine a_done (by kernel_rfl) ?_
                refine q_then_n ?_
                exact at_intro (x6, x7) trivial ⟨rfl, rfl, rfl, rfl, rfl, rfl, trivial⟩ (arr_ent 0 [1, 0, 0, 0] _)
        · refine s_alloc (l := zero6) rfl rfl fun x7 => ?_
          refine a_one 3 (by kernel_rfl) rfl rfl ?_
          · apply s_val rfl rfl
            · exact r_loadN rfl rfl (scL_len s) (scs_at hs (j := 2) rfl)
            refine a_one 10 (by kernel_rfl) rfl rfl ?_
            · refine s_storeN (i := 1) (vs := scL s) rfl rfl rfl (by rw [scL_len]; rfl) (scL_one s) (by rw [scL_len]; rfl) ?_
              rw [spl6]
              refine a_one 11 (by kernel_rfl) rfl rfl ?_
              · refine s_storeN (i := 1) (vs := scL s) rfl rfl rfl (by rw [scL_len]; rfl) (scL_one s) (by rw [scL_len]; rfl) ?_
                rw [spl6]
                refine a_done (by kernel_rfl) ?_
                refine q_then_n ?_
                exact at_intro (x6, x7) trivial ⟨rfl, rfl, rfl, rfl, rfl, rfl, trivial⟩ (arr_ent 0 [1, 0, 0, 0] _)
      · refine s_alloc (l := zero6) rfl rfl fun x7 => ?_
        refine a_two 3 7 (by kernel_rfl) rfl rfl rfl rfl ?_ ?_
        · apply s_val rfl rfl
          · exact r_loadN rfl rfl (scL_len s) (scs_at hs (j := 2) rfl)
          refine a_two 7 10 (by kernel_rfl) rfl rfl rfl rfl ?_ ?_
          · apply s_val rfl rfl
            · exact r_loadN rfl rfl (scL_len s) (scs_at hs (j := 3) rfl)
            refine a_one 10 (by kernel_rfl) rfl rfl ?_
            · refine s_storeN (i := 1) (vs := scL s) rfl rfl rfl (by rw [scL_len]; rfl) (scL_one s) (by rw [scL_len]; rfl) ?_
              rw [spl6]
              refine a_one 11 (by kernel_rfl) rfl rfl ?_
              · refine s_storeN (i := 1) (vs := scL s) rfl rfl rfl (by rw [scL_len]; rfl) (scL_one s) (by rw [scL_len]; rfl) ?_
                rw [spl6]
                refine a_done (by kernel_rfl) ?_
                refine q_then_n ?_
                exact at_intro (x6, x7) trivial ⟨rfl, rfl, rfl, rfl, rfl, rfl, trivial⟩ (arr_ent 0 [1, 0, 0, 0] _)
          · refine s_storeN (i := 1) (vs := scL s) rfl rfl rfl (by rw [scL_len]; rfl) (scL_one s) (by rw [scL_len]; rfl) ?_
            rw [spl6]
            refine a_one 7 (by kernel_rfl) rfl rfl ?_
            · apply s_val rfl rfl
              · exact r_loadN rfl rfl (scL_len s) (scs_at hs (j := 3) rfl)
              refine a_one 11 (by kernel_rfl) rfl rfl ?_
              · refine s_storeN (i := 1) (vs := scL s) rfl rfl rfl (by rw [scL_len]; rfl) (scL_one s) (by rw [scL_len]; rfl) ?_
                rw [spl6]
                refine a_done (by kernel_rfl) ?_
                refine q_then_n ?_
                exact at_intro (x6, x7) trivial ⟨rfl, rfl, rfl, rfl, rfl, rfl, trivial⟩ (arr_ent 0 [1, 0, 0, 0] _)
        · apply s_val rfl rfl
          · exact r_loadN rfl rfl (scL_len s) (scs_at hs (j := 3) rfl)
          refine a_one 3 (by kernel_rfl) rfl rfl ?_
          · apply s_val rfl rfl
            · exact r_loadN rfl rfl (scL_len s) (scs_at hs (j := 2) rfl)
            refine a_one 10 (by kernel_rfl) rfl rfl ?_
            · refine s_storeN (i := 1) (vs := scL s) rfl rfl rfl (by rw [scL_len]; rfl) (scL_one s) (by rw [scL_len]; rfl) ?_
              rw [spl6]
              refine a_one 11 (by kernel_rfl) rfl rfl ?_
              · refine s_storeN (i := 1) (vs := scL s) rfl rfl rfl (by rw [scL_len]; rfl) (scL_one s) (by rw [scL_len]; rfl) ?_
                rw [spl6]
                refine a_done (by kernel_rfl) ?_
                refine q_then_n ?_
                exact at_intro (x6, x7) trivial ⟨rfl, rfl, rfl, rfl, rfl, rfl, trivial⟩ (arr_ent 0 [1, 0, 0, 0] _)
    · refine s_alloc (l := zero6) rfl rfl fun x7 => ?_
      refine a_three 3 7 8 (by kernel_rfl) rfl rfl rfl rfl rfl rfl ?_ ?_ ?_
      · apply s_val rfl rfl
        · exact r_loadN rfl rfl (scL_len s) (scs_at hs (j := 1) rfl)
        refine a_two 7 8 (by kernel_rfl) rfl rfl rfl rfl ?_ ?_
        · apply s_val rfl rfl
          · exact r_loadN rfl rfl (scL_len s) (scs_at hs (j := 2) rfl)
          refine a_one 8 (by kernel_rfl) rfl rfl ?_
          · refine s_alloc (l := zero6) rfl rfl fun x6 => ?_
            refine a_one 10 (by kernel_rfl) rfl rfl ?_
            · refine s_storeN (i := 0) (vs := scL s) rfl rfl rfl (by rw [scL_len]; rfl) (scL_one s) (by rw [scL_len]; rfl) ?_
              rw [spl6]
              refine a_one 11 (by kernel_rfl) rfl rfl ?_
              · refine s_storeN (i := 1) (vs := scL s) rfl rfl rfl (by rw [scL_len]; rfl) (scL_one s) (by rw [scL_len]; rfl) ?_
                rw [spl6]
                refine a_done (by kernel_rfl) ?_
                refine q_then_n ?_
                exact at_intro (x6, x7) trivial ⟨rfl, rfl, rfl, rfl, rfl, rfl, trivial⟩ (arr_ent 0 [1, 0, 0, 0] _)
        · refine s_alloc (l := zero6) rfl rfl fun x6 => ?_
          refine a_two 7 10 (by kernel_rfl) rfl rfl rfl rfl ?_ ?_
          · apply s_val rfl rfl
            · exact r_loadN rfl rfl (scL_len s) (scs_at hs (j := 3) rfl)
            refine a_one 10 (by kernel_rfl) rfl rfl ?_
            · refine s_storeN (i := 0) (vs := scL s) rfl rfl rfl (by rw [scL_len]; rfl) (scL_one s) (by rw [scL_len]; rfl) ?_
              rw [spl6]
              refine a_one 11 (by kernel_rfl) rfl rfl ?_
              · refine s_storeN (i := 1) (vs := scL s) rfl rfl rfl (by rw [scL_len]; rfl) (scL_one s) (by rw [scL_len]; rfl) ?_
                rw [spl6]
                refine a_done (by kernel_rfl) ?_
                refine q_then_n ?_
                exact at_intro (x6, x7) trivial ⟨rfl, rfl, rfl, rfl, rfl, rfl, trivial⟩ (arr_ent 0 [1, 0, 0, 0] _)
          · refine s_storeN (i := 0) (vs := scL s) rfl rfl rfl (by rw [scL_len]; rfl) (scL_one s) (by rw [scL_len]; rfl) ?_
            rw [spl6]
            refine a_one 7 (by kernel_rfl) rfl rfl ?_
            · apply s_val rfl rfl
              · exact r_loadN rfl rfl (scL_len s) (scs_at hs (j := 3) rfl)
              refine a_one 11 (by kernel_rfl) rfl rfl ?_
              · refine s_storeN (i := 1) (vs := scL s) rfl rfl rfl (by rw [scL_len]; rfl) (scL_one s) (by rw [scL_len]; rfl) ?_
                rw [spl6]
                refine a_done (by kernel_rfl) ?_
                refine q_then_n ?_
                exact at_intro (x6, x7) trivial ⟨rfl, rfl, rfl, rfl, rfl, rfl, trivial⟩ (arr_ent 0 [1, 0, 0, 0] _)
      · apply s_val rfl rfl
        · exact r_loadN rfl rfl (scL_len s) (scs_at hs (j := 2) rfl)
        refine a_two 3 8 (by kernel_rfl) rfl rfl rfl rfl ?_ ?_
        · apply s_val rfl rfl
          · exact r_loadN rfl rfl (scL_len s) (scs_at hs (j := 1) rfl)
          refine a_one 8 (by kernel_rfl) rfl rfl ?_
          · refine s_alloc (l := zero6) rfl rfl fun x6 => ?_
            refine a_one 10 (by kernel_rfl) rfl rfl ?_
            · refine s_storeN (i := 0) (vs := scL s) rfl rfl rfl (by rw [scL_len]; rfl) (scL_one s) (by rw [scL_len]; rfl) ?_
              rw [spl6]
              refine a_one 11 (by kernel_rfl) rfl rfl ?_
              · refine s_storeN (i := 1) (vs := scL s) rfl rfl rfl (by rw [scL_len]; rfl) (scL_one s) (by rw [scL_len]; rfl) ?_
                rw [spl6]
                refine a_done (by kernel_rfl) ?_
                refine q_then_n ?_
                exact at_intro (x6, x7) trivial ⟨rfl, rfl, rfl, rfl, rfl, rfl, trivial⟩ (arr_ent 0 [1, 0, 0, 0] _)
        · refine s_alloc (l := zero6) rfl rfl fun x6 => ?_
          refine a_one 3 (by kernel_rfl) rfl rfl ?_
          · apply s_val rfl rfl
            · exact r_loadN rfl rfl (scL_len s) (scs_at hs (j := 2) rfl)
            refine a_one 10 (by kernel_rfl) rfl rfl ?_
            · refine s_storeN (i := 0) (vs := scL s) rfl rfl rfl (by rw [scL_len]; rfl) (scL_one s) (by rw [scL_len]; rfl) ?_
              rw [spl6]
              refine a_one 11 (by kernel_rfl) rfl rfl ?_
              · refine s_storeN (i := 1) (vs := scL s) rfl rfl rfl (by rw [scL_len]; rfl) (scL_one s) (by rw [scL_len]; rfl) ?_
                rw [spl6]
                refine a_done (by kernel_rfl) ?_
                refine q_then_n ?_
                exact at_intro (x6, x7) trivial ⟨rfl, rfl, rfl, rfl, rfl, rfl, trivial⟩ (arr_ent 0 [1, 0, 0, 0] _)
      · refine s_alloc (l := zero6) rfl rfl fun x6 => ?_
        refine a_two 3 7 (by kernel_rfl) rfl rfl rfl rfl ?_ ?_
        · apply s_val rfl rfl
          · exact r_loadN rfl rfl (scL_len s) (scs_at hs (j := 2) rfl)
          refine a_two 7 10 (by kernel_rfl) rfl rfl rfl rfl ?_ ?_
          · apply s_val rfl rfl
            · exact r_loadN rfl rfl (scL_len s) (scs_at hs (j := 3) rfl)
            refine a_one 10 (by kernel_rfl) rfl rfl ?_
            · refine s_storeN (i := 0) (vs := scL s) rfl rfl rfl (by rw [scL_len]; rfl) (scL_one s) (by rw [scL_len]; rfl) ?_
              rw [spl6]
              refine a_one 11 (by kernel_rfl) rfl rfl ?_
              · refine s_storeN (i := 1) (vs := scL s) rfl rfl rfl (by rw [scL_len]; rfl) (scL_one s) (by rw [scL_len]; rfl) ?_
                rw [spl6]
                refine a_done (by kernel_rfl) ?_
                refine q_then_n ?_
                exact at_intro (x6, x7) trivial ⟨rfl, rfl, rfl, rfl, rfl, rfl, trivial⟩ (arr_ent 0 [1, 0, 0, 0] _)
          · refine s_storeN (i := 0) (vs := scL s) rfl rfl rfl (by rw [scL_len]; rfl) (scL_one s) (by rw [scL_len]; rfl) ?_
            rw [spl6]
            refine a_one 7 (by kernel_rfl) rfl rfl ?_
            · apply s_val rfl rfl
              · exact r_loadN rfl rfl (scL_len s) (scs_at hs (j := 3) rfl)
              refine a_one 11 (by kernel_rfl) rfl rfl ?_
              · refine s_storeN (i := 1) (vs := scL s) rfl rfl rfl (by rw [scL_len]; rfl) (scL_one s) (by rw [scL_len]; rfl) ?_
                rw [spl6]
                refine a_done (by kernel_rfl) ?_
                refine q_then_n ?_
                exact at_intro (x6, x7) trivial ⟨rfl, rfl, rfl, rfl, rfl, rfl, trivial⟩ (arr_ent 0 [1, 0, 0, 0] _)
        · apply s_val rfl rfl
          · exact r_loadN rfl rfl (scL_len s) (scs_at hs (j := 3) rfl)
          refine a_one 3 (by kernel_rfl) rfl rfl ?_
          · apply s_val rfl rfl
            · exact r_loadN rfl rfl (scL_len s) (scs_at hs (j := 2) rfl)
            refine a_one 10 (by kernel_rfl) rfl rfl ?_
            · refine s_storeN (i := 0) (vs := scL s) rfl rfl rfl (by rw [scL_len]; rfl) (scL_one s) (by rw [scL_len]; rfl) ?_
              rw [spl6]
              refine a_one 11 (by kernel_rfl) rfl rfl ?_
              · refine s_storeN (i := 1) (vs := scL s) rfl rfl rfl (by rw [scL_len]; rfl) (scL_one s) (by rw [scL_len]; rfl) ?_
                rw [spl6]
                refine a_done (by kernel_rfl) ?_
                refine q_then_n ?_
                exact at_intro (x6, x7) trivial ⟨rfl, rfl, rfl, rfl, rfl, rfl, trivial⟩ (arr_ent 0 [1, 0, 0, 0] _)
  rintro ⟨x6, x7⟩ -
  dsimp only
  repeat (first | refine wWD ?_ | intro b)
  apply qt_val rfl rfl rfl
  · exact r_loadN rfl rfl (scL_len s) (rdn_all 0 rfl)
  refine qt_call rfl rfl (class_c s) [] rfl (Ent.refl _) ?_
  repeat (first | refine wWD ?_ | intro b)
  apply qt_val rfl rfl rfl
  · exact r_loadN rfl rfl (scL_len s) (rdn_all 1 rfl)
  refine qt_call rfl rfl (class_c s) [] rfl (Ent.refl _) ?_
  repeat (first | refine wWD ?_ | intro b)
  rw [show decide ((kCls s : Int) = (kCls s : Int)) = true from decide_eq_true rfl]
  repeat (first | refine wWD ?_ | intro b)
  apply qt_valY rfl rfl rfl rfl rfl
  · exact r_loadN rfl rfl (scL_len s) (rdn_all 0 rfl)
  refine qt_callY rfl rfl rfl rfl (class_c s) [] rfl (Ent.refl _) ?_
  repeat (first | refine wWD ?_ | intro b)
  refine l_plain rfl ?_
  apply s_val rfl rfl
  · exact r_loadN rfl rfl (scL_len s) (rdn_all 0 rfl)
  refine l_plain rfl (s_call rfl rfl (class_c s) [] rfl ?_ (fun _ _ h => h.elim))
  rintro _ _ ⟨rfl, rfl⟩
  repeat (first | refine wWD ?_ | intro b)
  by_cases h2 : kCls s = 2
  · rw [show decide ((kCls s : Int) = 2) = true from decide_eq_true (by omega)]
    repeat (first | refine wWD ?_ | intro b)
    refine l_plain rfl ?_
    apply s_val rfl rfl
    · exact r_loadN rfl rfl (scL_len s) (rdn_all 0 rfl)
    refine l_plain rfl ?_
    apply s_val rfl rfl
    · exact r_loadN rfl rfl (scL_len s) (rdn_all 1 rfl)
    refine l_plain rfl (s_call rfl rfl (alikeNumbers_c s hsw h2) [] rfl ?_ (fun _ _ h => h.elim))
    rintro _ _ ⟨rfl, rfl⟩
    repeat (first | refine wWD ?_ | intro b)
    exact at_intro (i + 1) ⟨by omega, by omega⟩ ⟨rfl, rfl, rfl, rfl, trivial⟩ (arr_ent 2 [2, 2] _)
  · rw [show decide ((kCls s : Int) = 2) = false from decide_eq_false (by omega)]
    repeat (first | refine wWD ?_ | intro b)
    refine l_plain rfl ?_
    apply s_val rfl rfl
    · exact r_loadN rfl rfl (scL_len s) (rdn_all 0 rfl)
    refine l_plain rfl ?_
    apply s_val rfl rfl
    · exact r_loadN rfl rfl (scL_len s) (rdn_all 1 rfl)
    refine l_plain rfl (s_call rfl rfl (one_c s h2) [] rfl ?_ (fun _ _ h => h.elim))
    rintro _ _ ⟨rfl, rfl⟩
    repeat (first | refine wWD ?_ | intro b)
    exact at_intro (i + 1) ⟨by omega, by omega⟩ ⟨rfl, rfl, rfl, rfl, trivial⟩ (arr_ent 2 [2, 2] _)
end Go.Proofs.YtfebpbflpdppiaaDoor
