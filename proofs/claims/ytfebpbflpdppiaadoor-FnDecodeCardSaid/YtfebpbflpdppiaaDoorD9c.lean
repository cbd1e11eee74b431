/- The walk over EncodeScalars, and Encode. -/
import Derived.Test.YtfebpbflpdppiaaDoorD9
namespace Go.Proofs.YtfebpbflpdppiaaDoor
open Go Go.Sl
set_option maxRecDepth 100000
attribute [local irreducible] wpList Code.wp Exit.then Exit.inBlock bodyPost RunS RunV G St Ct Sat Ent At Rd GQ QL wpAny wpOp wpQuiet slP Sl.ex sep
attribute [local irreducible] anys anyP bufP
set_option maxHeartbeats 20000000 in
theorem EncodeScalars_c (ain : Option Addr) (cin : Nat) (acc : List (Value × Sc)) (hw : ∀ p ∈ acc, p.2.wf ∧ small p.2) (hl : acc.length ≤ 131072) :
    Ct Tryd.prog 17 #[.slice ain acc.length cin] [slP (.slice ain acc.length cin) 20 1 (acc.map Prod.fst), anys acc]
    (fun v B => ∃ a' c', v = .tuple #[.slice a' (encL (acc.map Prod.snd)).length c', .nilIface] ∧ B = [slP (.slice a' (encL (acc.map Prod.snd)).length c') 5 1 (encL (acc.map Prod.snd))]) nev := by
  refine Ct.of Tryd.func17 rfl Tryd.ntmps17 rfl fun m F => ?_
  have hml : 1000000000000 ≤ maxLen := by unfold maxLen; omega
  repeat (first | refine wW ?_ | intro b)
  revert b
  intro b2
  refine c_loop (α := Nat) (fun i => [(2, .pointer (some ⟨b2, 0, none⟩)), (3, .nilIface), (29, .slice ain acc.length cin), (30, .int .i64 (acc.length : Nat)), (31, .int .i64 (i : Nat))])
    (fun i => bufP b2 (encL ((acc.take i).map Prod.snd)) :: slP (.slice ain acc.length cin) 20 1 (acc.map Prod.fst) :: anys acc :: F)
    (fun i => i ≤ acc.length) (fun i => acc.length - i) 0 (Nat.zero_le _) ⟨rfl, rfl, rfl, rfl, rfl, trivial⟩ ((Ent.cons (slP_nil (e := 5) (size := 1))).trans (bufP_shut (ls := []) none 0 rfl)) ?_
  intro i hi
  have hel := encL_len ((acc.take i).map Prod.snd) (fun s hs => by
    obtain ⟨p, hp, rfl⟩ := List.mem_map.1 hs
    exact (hw p (List.mem_of_mem_take hp)).2)
  rw [List.length_map, List.length_take] at hel
  have hlt : (encL ((acc.take i).map Prod.snd)).length ≤ 10000000000 := by omega
  repeat (first | refine wW ?_ | intro b)
  refine c_cond rfl (fun h => ?_) (fun h => ?_)
  rotate_left
  · have h := of_decide_eq_false h
    have hil : i = acc.length := by omega
    subst hil
    rw [List.take_length]
    refine bufP_open fun a c => ?_
    repeat (first | refine wW ?_ | intro b)
    exact e_retC [slP (.slice a (encL (acc.map Prod.snd)).length c) 5 1 (encL (acc.map Prod.snd))] rfl rfl rfl (rd_blk 0 rfl rfl) rfl ⟨a, c, rfl, rfl⟩ (arr_ent 3 [1] _)
  have h := of_decide_eq_true h
  obtain ⟨l1, ⟨pv, ps⟩, l2, hacc, hl1⟩ : ∃ l1 p l2, acc = l1 ++ p :: l2 ∧ l1.length = i := ⟨acc.take i, acc[i]'(by omega), acc.drop (i + 1), by simp, by simp; omega⟩
  have hget : (acc.map Prod.fst)[i]? = some pv := by rw [hacc, ← hl1]; simp
  have htk : (acc.take (i + 1)).map Prod.snd = (acc.take i).map Prod.snd ++ [ps] := by rw [hacc, ← hl1, List.take_length_add_append, List.take_left]; simp
  have hmem : (pv, ps) ∈ acc := by rw [hacc]; simp
  obtain ⟨hwf, hsm⟩ := hw _ hmem
  dsimp only at hwf hsm
  obtain ⟨ls, hls⟩ : ∃ ls, ls = encL ((acc.take i).map Prod.snd) := ⟨_, rfl⟩
  rw [← hls] at hlt ⊢
  refine G.ent (L' := slP (.slice ain acc.length cin) 20 1 (acc.map Prod.fst) :: bufP b2 ls :: anys acc :: F) (arr_ent 0 [1, 0] _) ?_
  refine slP_some (by intro e; rw [e] at hget; simp at hget) fun sb hsb _ _ _ => ?_
  subst hsb
  have hpick : ∀ L, Ent (anys acc :: L) (anyP (pv, ps) :: anys (l1 ++ l2) :: L) := by rw [hacc]; exact anys_pick l1 l2 (pv, ps)
  have hput : ∀ L, Ent (anyP (pv, ps) :: anys (l1 ++ l2) :: L) (anys acc :: L) := by rw [hacc]; exact anys_put l1 l2 (pv, ps)
  have hfin : ∀ X, X = encSc ps → Ent (bufP b2 (ls ++ X) :: anyP (pv, ps) :: slP (.slice (some ⟨sb, 0, none⟩) acc.length cin) 20 1 (acc.map Prod.fst) :: anys (l1 ++ l2) :: F)
      (bufP b2 (encL ((acc.take (i + 1)).map Prod.snd)) :: slP (.slice (some ⟨sb, 0, none⟩) acc.length cin) 20 1 (acc.map Prod.fst) :: anys acc :: F) := fun X hX => by
    rw [htk, show encL ((acc.take i).map Prod.snd ++ [ps]) = ls ++ X by rw [hX, hls]; simp [encL]]
    exact (arr_ent 0 [0, 1, 0, 0] _).trans (Ent.cons (Ent.cons (hput F)))
  repeat (first | refine wW ?_ | intro b)
  refine l_plain rfl ?_
  apply s_val rfl rfl
  · exact RunS.v (r_index (i := i) rfl rfl rfl (by omega))
  rw [Nat.mul_one]
  refine l_plain rfl ?_
  apply s_val rfl rfl
  · exact r_load rfl rfl (rd_sl 0 rfl (by rw [Nat.zero_add]; exact hget))
  repeat (first | refine wW ?_ | intro b)
  refine G.ent ((arr_ent 0 [2] _).trans (hpick (slP (.slice (some ⟨sb, 0, none⟩) acc.length cin) 20 1 (acc.map Prod.fst) :: bufP b2 ls :: F))) ?_
  refine G.ent (L' := anyP (pv, ps) :: bufP b2 ls :: slP (.slice (some ⟨sb, 0, none⟩) acc.length cin) 20 1 (acc.map Prod.fst) :: anys (l1 ++ l2) :: F) (arr_ent 0 [0, 2, 1, 0] _) ?_
  cases ps
  case nil =>
    refine anyE (p := pv = _) (fun _ h => any_val h rfl) ?_
    rintro rfl
    refine G.ent (L' := bufP b2 ls :: anyP (_, .nil) :: slP (.slice (some ⟨sb, 0, none⟩) acc.length cin) 20 1 (acc.map Prod.fst) :: anys (l1 ++ l2) :: F) (arr_ent 0 [1, 0] _) ?_
    refine bufP_open fun a c => ?_
    repeat (first | refine wW ?_ | intro b)
    (refine l_plain rfl (s_append (i := 2) rfl rfl rfl (Src.some _ _ _ _ _ rfl (rdn_all 0 rfl)) rfl rfl (Nat.mul_one _).symm rfl (by omega) (by unfold maxLen; omega) rfl ?_); intro a c)
    repeat (first | refine wW ?_ | intro b)
    exact at_intro (i + 1) ⟨by omega, by omega⟩ ⟨rfl, rfl, rfl, rfl, rfl, trivial⟩ ((arr_ent 1 [0, 0] _).trans ((bufP_shut (ls := ls ++ [Value.int IntKind.u8 0]) a c (by simp)).trans (hfin _ rfl)))
  case bool b =>
    cases b
    · skip
      refine anyE (p := pv = _) (fun _ h => any_val h rfl) ?_
      rintro rfl
      refine G.ent (L' := bufP b2 ls :: anyP (_, .bool false) :: slP (.slice (some ⟨sb, 0, none⟩) acc.length cin) 20 1 (acc.map Prod.fst) :: anys (l1 ++ l2) :: F) (arr_ent 0 [1, 0] _) ?_
      refine bufP_open fun a c => ?_
      repeat (first | refine wW ?_ | intro b)
      (refine l_plain rfl (s_append (i := 2) rfl rfl rfl (Src.some _ _ _ _ _ rfl (rdn_all 0 rfl)) rfl rfl (Nat.mul_one _).symm rfl (by omega) (by unfold maxLen; omega) rfl ?_); intro a c)
      repeat (first | refine wW ?_ | intro b)
      exact at_intro (i + 1) ⟨by omega, by omega⟩ ⟨rfl, rfl, rfl, rfl, rfl, trivial⟩ ((arr_ent 1 [0, 0] _).trans ((bufP_shut (ls := ls ++ [Value.int IntKind.u8 1]) a c (by simp)).trans (hfin _ rfl)))
    · skip
      refine anyE (p := pv = _) (fun _ h => any_val h rfl) ?_
      rintro rfl
      refine G.ent (L' := bufP b2 ls :: anyP (_, .bool true) :: slP (.slice (some ⟨sb, 0, none⟩) acc.length cin) 20 1 (acc.map Prod.fst) :: anys (l1 ++ l2) :: F) (arr_ent 0 [1, 0] _) ?_
      refine bufP_open fun a c => ?_
      repeat (first | refine wW ?_ | intro b)
      (refine l_plain rfl (s_append (i := 2) rfl rfl rfl (Src.some _ _ _ _ _ rfl (rdn_all 0 rfl)) rfl rfl (Nat.mul_one _).symm rfl (by omega) (by unfold maxLen; omega) rfl ?_); intro a c)
      repeat (first | refine wW ?_ | intro b)
      exact at_intro (i + 1) ⟨by omega, by omega⟩ ⟨rfl, rfl, rfl, rfl, rfl, trivial⟩ ((arr_ent 1 [0, 0] _).trans ((bufP_shut (ls := ls ++ [Value.int IntKind.u8 2]) a c (by simp)).trans (hfin _ rfl)))
  case i64 n =>
    refine anyE (p := pv = _) (fun _ h => any_val h rfl) ?_
    rintro rfl
    refine G.ent (L' := bufP b2 ls :: anyP (_, .i64 n) :: slP (.slice (some ⟨sb, 0, none⟩) acc.length cin) 20 1 (acc.map Prod.fst) :: anys (l1 ++ l2) :: F) (arr_ent 0 [1, 0] _) ?_
    repeat (first | refine wW ?_ | intro b)
    refine l_plain rfl (s_call rfl rfl (encInt_c n hwf.1 hwf.2 b2 ls (by omega)) [0] rfl ?_ (fun _ _ h => h.elim))
    rintro _ _ ⟨rfl, rfl⟩
    repeat (first | refine wW ?_ | intro b)
    exact at_intro (i + 1) ⟨by omega, by omega⟩ ⟨rfl, rfl, rfl, rfl, rfl, trivial⟩ (hfin _ rfl)
  case u64 n =>
    refine anyE (p := pv = _) (fun _ h => any_val h rfl) ?_
    rintro rfl
    refine G.ent (L' := bufP b2 ls :: anyP (_, .u64 n) :: slP (.slice (some ⟨sb, 0, none⟩) acc.length cin) 20 1 (acc.map Prod.fst) :: anys (l1 ++ l2) :: F) (arr_ent 0 [1, 0] _) ?_
    repeat (first | refine wW ?_ | intro b)
    refine l_plain rfl (s_call rfl rfl (encUint_c n hwf b2 ls (by omega)) [0] rfl ?_ (fun _ _ h => h.elim))
    rintro _ _ ⟨rfl, rfl⟩
    repeat (first | refine wW ?_ | intro b)
    exact at_intro (i + 1) ⟨by omega, by omega⟩ ⟨rfl, rfl, rfl, rfl, rfl, trivial⟩ (hfin _ rfl)
  case f64 n =>
    refine anyE (p := pv = _) (fun _ h => any_val h rfl) ?_
    rintro rfl
    refine G.ent (L' := bufP b2 ls :: anyP (_, .f64 n) :: slP (.slice (some ⟨sb, 0, none⟩) acc.length cin) 20 1 (acc.map Prod.fst) :: anys (l1 ++ l2) :: F) (arr_ent 0 [1, 0] _) ?_
    repeat (first | refine wW ?_ | intro b)
    refine l_plain rfl (s_call rfl rfl (encFloat_c n hwf b2 ls (by omega)) [0] rfl ?_ (fun _ _ h => h.elim))
    rintro _ _ ⟨rfl, rfl⟩
    repeat (first | refine wW ?_ | intro b)
    exact at_intro (i + 1) ⟨by omega, by omega⟩ ⟨rfl, rfl, rfl, rfl, rfl, trivial⟩ (hfin _ rfl)
  case c128 n n2 =>
    refine anyE (p := pv = _) (fun _ h => any_val h rfl) ?_
    rintro rfl
    refine G.ent (L' := bufP b2 ls :: anyP (_, .c128 n n2) :: slP (.slice (some ⟨sb, 0, none⟩) acc.length cin) 20 1 (acc.map Prod.fst) :: anys (l1 ++ l2) :: F) (arr_ent 0 [1, 0] _) ?_
    repeat (first | refine wW ?_ | intro b)
    refine l_plain rfl (s_call rfl rfl (encComplex_c n n2 hwf.1 hwf.2 b2 ls (by omega)) [0] rfl ?_ (fun _ _ h => h.elim))
    rintro _ _ ⟨rfl, rfl⟩
    repeat (first | refine wW ?_ | intro b)
    rw [List.append_assoc]
    exact at_intro (i + 1) ⟨by omega, by omega⟩ ⟨rfl, rfl, rfl, rfl, rfl, trivial⟩ (hfin _ rfl)
  case str t =>
    refine anyE (p := pv = _) (fun _ h => any_val h rfl) ?_
    rintro rfl
    refine G.ent (L' := bufP b2 ls :: anyP (_, .str t) :: slP (.slice (some ⟨sb, 0, none⟩) acc.length cin) 20 1 (acc.map Prod.fst) :: anys (l1 ++ l2) :: F) (arr_ent 0 [1, 0] _) ?_
    have hsm' : t.length < 65536 := hsm
    have hz : (⟨t.toArray⟩ : ByteArray).size = t.length := rfl
    repeat (first | refine wW ?_ | intro b)
    rw [show ((⟨t.toArray⟩ : ByteArray).size : Int) = (t.length : Int) from rfl]
    refine c_cond rfl (fun h => ?_) (fun h => ?_)
    · have h := of_decide_eq_true h
      refine bufP_open fun a c => ?_
      repeat (first | refine wW ?_ | intro b)
      (refine l_plain rfl (s_append (i := 2) rfl rfl rfl (Src.some _ _ _ _ _ rfl (rdn_all 0 rfl)) rfl rfl (Nat.mul_one _).symm rfl (by omega) (by unfold maxLen; omega) rfl ?_); intro a c)
      repeat (first | refine wW ?_ | intro b)
      refine l_plain rfl (s_strBc rfl (Nat.le_trans (m := 65536) (Nat.le_of_lt hsm') (by omega)) rfl fun nb cc h1 h2 => ?_)
      refine l_plain rfl (s_append (i := 2) rfl rfl rfl (Src.some _ 0 _ _ (u8s t) (by simp; rfl) (rdn_ro 0 rfl)) rfl rfl (by simp) (u8s_one t) (by first | omega | (simp; omega)) (by first | omega | (simp; omega)) rfl ?_)
      intro a c
      repeat (first | refine wW ?_ | intro b)
      exact at_intro (i + 1) ⟨by omega, by omega⟩ ⟨rfl, rfl, rfl, rfl, rfl, trivial⟩ ((arr_ent 2 [0, 0] _).trans ((bufP_shut (ls := ls ++ [b0 (41 + (t.length : Nat))] ++ u8s t) a c (by simp <;> omega)).trans (by rw [List.append_assoc]; exact hfin _ (by simp only [encSc]; rw [if_pos (by omega)]; rfl))))
    have h := of_decide_eq_false h
    repeat (first | refine wW ?_ | intro b)
    refine c_condF (by rw [show decide ((65535 : Int) < (t.length : Int)) = false from decide_eq_false (by omega)]; rfl) ?_
    repeat (first | refine wW ?_ | intro b)
    refine c_cond rfl (fun h2 => ?_) (fun h2 => ?_)
    · have h2 := of_decide_eq_true h2
      repeat (first | refine wW ?_ | intro b)
      refine l_plain rfl ?_
      apply s_val rfl rfl
      · exact RunS.v (r_add rfl rfl)
      repeat (first | refine wW ?_ | intro b)
      refine bufP_open fun a c => ?_
      repeat (first | refine wW ?_ | intro b)
      (refine l_plain rfl (s_append (i := 2) rfl rfl rfl (Src.some _ _ _ _ _ rfl (rdn_all 0 rfl)) rfl rfl (Nat.mul_one _).symm rfl (by omega) (by unfold maxLen; omega) rfl ?_); intro a c)
      repeat (first | refine wW ?_ | intro b)
      refine G.ent ((arr_ent 1 [0, 0] _).trans (bufP_shut (ls := ls ++ [Value.int IntKind.u8 60]) a c (by simp))) ?_
      rw [show IntKind.u64.wrap (t.length : Int) = (t.length : Nat) from wrap_nn (by rw [max_u64]; omega)]
      refine l_plain rfl (s_call rfl rfl (encU0_c t.length (by omega) b2 (ls ++ [Value.int IntKind.u8 60]) (by simp; omega)) [0] rfl ?_ (fun _ _ h => h.elim))
      rintro _ _ ⟨rfl, rfl⟩
      have hel2 := encU_len t.length
      refine bufP_open fun a c => ?_
      repeat (first | refine wW ?_ | intro b)
      refine l_plain rfl (s_strBc rfl (Nat.le_trans (m := 65536) (Nat.le_of_lt hsm') (by omega)) rfl fun nb cc h1 h2 => ?_)
      refine l_plain rfl (s_append (i := 2) rfl rfl rfl (Src.some _ 0 _ _ (u8s t) (by simp; rfl) (rdn_ro 0 rfl)) rfl rfl (by simp) (u8s_one t) (by first | omega | (simp; omega)) (by first | omega | (simp; omega)) rfl ?_)
      intro a c
      repeat (first | refine wW ?_ | intro b)
      exact at_intro (i + 1) ⟨by omega, by omega⟩ ⟨rfl, rfl, rfl, rfl, rfl, trivial⟩ ((arr_ent 1 [0, 0] _).trans ((bufP_shut (ls := ls ++ [Value.int IntKind.u8 60] ++ encU t.length ++ u8s t) a c (by simp <;> omega)).trans (by rw [List.append_assoc, List.append_assoc]; exact hfin _ (by simp only [encSc]; rw [if_neg (by omega), if_neg (by omega)]; rfl))))
    have h2 := of_decide_eq_false h2
    repeat (first | refine wW ?_ | intro b)
    refine bufP_open fun a c => ?_
    repeat (first | refine wW ?_ | intro b)
    (refine l_plain rfl (s_append (i := 2) rfl rfl rfl (Src.some _ _ _ _ _ rfl (rdn_all 0 rfl)) rfl rfl (Nat.mul_one _).symm rfl (by omega) (by unfold maxLen; omega) rfl ?_); intro a c)
    repeat (first | refine wW ?_ | intro b)
    refine G.ent ((arr_ent 1 [0, 0] _).trans (bufP_shut (ls := ls ++ [Value.int IntKind.u8 59]) a c (by simp))) ?_
    rw [show IntKind.u64.wrap (t.length : Int) = (t.length : Nat) from wrap_nn (by rw [max_u64]; omega)]
    refine l_plain rfl (s_call rfl rfl (encU0_c t.length (by omega) b2 (ls ++ [Value.int IntKind.u8 59]) (by simp; omega)) [0] rfl ?_ (fun _ _ h => h.elim))
    rintro _ _ ⟨rfl, rfl⟩
    have hel2 := encU_len t.length
    refine bufP_open fun a c => ?_
    repeat (first | refine wW ?_ | intro b)
    refine l_plain rfl (s_strBc rfl (Nat.le_trans (m := 65536) (Nat.le_of_lt hsm') (by omega)) rfl fun nb cc h1 h2 => ?_)
    refine l_plain rfl (s_append (i := 2) rfl rfl rfl (Src.some _ 0 _ _ (u8s t) (by simp; rfl) (rdn_ro 0 rfl)) rfl rfl (by simp) (u8s_one t) (by first | omega | (simp; omega)) (by first | omega | (simp; omega)) rfl ?_)
    intro a c
    repeat (first | refine wW ?_ | intro b)
    exact at_intro (i + 1) ⟨by omega, by omega⟩ ⟨rfl, rfl, rfl, rfl, rfl, trivial⟩ ((arr_ent 1 [0, 0] _).trans ((bufP_shut (ls := ls ++ [Value.int IntKind.u8 59] ++ encU t.length ++ u8s t) a c (by simp <;> omega)).trans (by rw [List.append_assoc, List.append_assoc]; exact hfin _ (by simp only [encSc]; rw [if_neg (by omega), if_pos (by omega)]; rfl))))
  case bytes t =>
    refine any_bytesA fun a0 c0 hv hsA => ?_
    subst hv
    have hsm' : t.length < 65536 := hsm
    refine G.ent (L' := bufP b2 ls :: anyP (_, .bytes t) :: slP (.slice (some ⟨sb, 0, none⟩) acc.length cin) 20 1 (acc.map Prod.fst) :: anys (l1 ++ l2) :: F) (arr_ent 0 [1, 0] _) ?_
    repeat (first | refine wW ?_ | intro b)
    refine c_cond rfl (fun h => ?_) (fun h => ?_)
    · have h := of_decide_eq_true h
      refine bufP_open fun a c => ?_
      repeat (first | refine wW ?_ | intro b)
      (refine l_plain rfl (s_append (i := 2) rfl rfl rfl (Src.some _ _ _ _ _ rfl (rdn_all 0 rfl)) rfl rfl (Nat.mul_one _).symm rfl (by omega) (by unfold maxLen; omega) rfl ?_); intro a c)
      repeat (first | refine wW ?_ | intro b)
      refine l_plain rfl (s_append (i := 1) rfl rfl rfl ((hsA _).ent (arr_ent 0 [3] _)) rfl rfl (by simp) (u8s_one t) (by first | omega | (simp; omega)) (by first | omega | (simp; omega)) rfl ?_)
      intro a c
      repeat (first | refine wW ?_ | intro b)
      exact at_intro (i + 1) ⟨by omega, by omega⟩ ⟨rfl, rfl, rfl, rfl, rfl, trivial⟩ ((arr_ent 1 [0, 0] _).trans ((bufP_shut (ls := ls ++ [b0 (21 + (t.length : Nat))] ++ u8s t) a c (by simp <;> omega)).trans (by rw [List.append_assoc]; exact hfin _ (by simp only [encSc]; rw [if_pos (by omega)]; rfl))))
    have h := of_decide_eq_false h
    repeat (first | refine wW ?_ | intro b)
    refine c_condF (by rw [show decide ((655356 : Int) < (t.length : Int)) = false from decide_eq_false (by omega)]; rfl) ?_
    repeat (first | refine wW ?_ | intro b)
    refine c_cond rfl (fun h2 => ?_) (fun h2 => ?_)
    · have h2 := of_decide_eq_true h2
      repeat (first | refine wW ?_ | intro b)
      refine l_plain rfl ?_
      apply s_val rfl rfl
      · exact RunS.v (r_add rfl rfl)
      repeat (first | refine wW ?_ | intro b)
      refine bufP_open fun a c => ?_
      repeat (first | refine wW ?_ | intro b)
      (refine l_plain rfl (s_append (i := 2) rfl rfl rfl (Src.some _ _ _ _ _ rfl (rdn_all 0 rfl)) rfl rfl (Nat.mul_one _).symm rfl (by omega) (by unfold maxLen; omega) rfl ?_); intro a c)
      repeat (first | refine wW ?_ | intro b)
      refine G.ent ((arr_ent 1 [0, 0] _).trans (bufP_shut (ls := ls ++ [Value.int IntKind.u8 40]) a c (by simp))) ?_
      refine c_condF (by rw [show decide ((t.length : Int) ≤ 255) = false from decide_eq_false (by omega)]; rfl) ?_
      repeat (first | refine wW ?_ | intro b)
      refine bufP_open fun a c => ?_
      repeat (first | refine wW ?_ | intro b)
      refine l_plain rfl (s_append (i := 2) rfl rfl rfl (Src.some _ _ _ _ _ rfl (rdn_all 0 rfl)) rfl rfl (by simp) rfl (by simp; omega) (by simp; omega) rfl ?_)
      intro a c
      repeat (first | refine wW ?_ | intro b)
      refine l_plain rfl (s_append (i := 1) rfl rfl rfl ((hsA _).ent (arr_ent 0 [3] _)) rfl rfl (by simp) (u8s_one t) (by first | omega | (simp; omega)) (by first | omega | (simp; omega)) rfl ?_)
      intro a c
      repeat (first | refine wW ?_ | intro b)
      exact at_intro (i + 1) ⟨by omega, by omega⟩ ⟨rfl, rfl, rfl, rfl, rfl, trivial⟩ ((arr_ent 1 [0, 0] _).trans ((bufP_shut (ls := ls ++ [Value.int IntKind.u8 40] ++ [bt ((t.length : Nat) - 1) 8, b0 ((t.length : Nat) - 1)] ++ u8s t) a c (by simp <;> omega)).trans (by rw [List.append_assoc, List.append_assoc]; exact hfin _ (by simp only [encSc]; rw [if_neg (by omega), if_neg (by omega)]; rfl))))
    have h2 := of_decide_eq_false h2
    repeat (first | refine wW ?_ | intro b)
    refine bufP_open fun a c => ?_
    repeat (first | refine wW ?_ | intro b)
    (refine l_plain rfl (s_append (i := 2) rfl rfl rfl (Src.some _ _ _ _ _ rfl (rdn_all 0 rfl)) rfl rfl (Nat.mul_one _).symm rfl (by omega) (by unfold maxLen; omega) rfl ?_); intro a c)
    repeat (first | refine wW ?_ | intro b)
    refine G.ent ((arr_ent 1 [0, 0] _).trans (bufP_shut (ls := ls ++ [Value.int IntKind.u8 39]) a c (by simp))) ?_
    refine c_condT (by rw [show decide ((t.length : Int) ≤ 255) = true from decide_eq_true (by omega)]; rfl) ?_
    repeat (first | refine wW ?_ | intro b)
    refine bufP_open fun a c => ?_
    repeat (first | refine wW ?_ | intro b)
    refine l_plain rfl (s_append (i := 2) rfl rfl rfl (Src.some _ _ _ _ _ rfl (rdn_all 0 rfl)) rfl rfl (by simp) rfl (by simp; omega) (by simp; omega) rfl ?_)
    intro a c
    repeat (first | refine wW ?_ | intro b)
    refine l_plain rfl (s_append (i := 1) rfl rfl rfl ((hsA _).ent (arr_ent 0 [3] _)) rfl rfl (by simp) (u8s_one t) (by first | omega | (simp; omega)) (by first | omega | (simp; omega)) rfl ?_)
    intro a c
    repeat (first | refine wW ?_ | intro b)
    exact at_intro (i + 1) ⟨by omega, by omega⟩ ⟨rfl, rfl, rfl, rfl, rfl, trivial⟩ ((arr_ent 1 [0, 0] _).trans ((bufP_shut (ls := ls ++ [Value.int IntKind.u8 39] ++ [b0 (t.length : Nat)] ++ u8s t) a c (by simp <;> omega)).trans (by rw [List.append_assoc, List.append_assoc]; exact hfin _ (by simp only [encSc]; rw [if_neg (by omega), if_pos (by omega)]; rfl))))
theorem Encode_c (a : Option Addr) (c : Nat) (l : List Sc) (hl : l.length ≤ 131072) (hs : ∀ s ∈ l, s.wf ∧ small s) : Ct Tryd.prog 9 #[.slice a l.length c] [slP (.slice a l.length c) 36 6 (l.flatMap scL)]
    (fun v B => ∃ a' c', v = .tuple #[.slice a' (encL l).length c', .int .i64 0] ∧ B = [slP (.slice a' (encL l).length c') 5 1 (encL l), slP (.slice a l.length c) 36 6 (l.flatMap scL)]) nev := by
  refine Ct.of Tryd.func9 rfl Tryd.ntmps9 rfl fun m F => ?_
  repeat (first | refine wW ?_ | intro b)
  refine l_plain rfl (s_call rfl rfl (values_c a c l (by omega) fun s h => (hs s h).2) [0] rfl ?_ (fun _ _ h => h.elim))
  rintro _ _ ⟨a1, c1, acc, rfl, ha1, rfl, rfl⟩
  refine l_plain rfl (s_call rfl rfl (EncodeScalars_c a1 c1 acc (fun p hp => hs p.2 (List.mem_map_of_mem hp)) (by simpa using hl)) [0, 0] rfl ?_ (fun _ _ h => h.elim))
  rintro _ _ ⟨a2, c2, rfl, rfl⟩
  repeat (first | refine wW ?_ | intro b)
  refine l_plain rfl (s_call rfl rfl kind_nil [] rfl ?_ (fun _ _ h => h.elim))
  rintro _ _ ⟨rfl, rfl⟩
  repeat (first | refine wW ?_ | intro b)
  exact e_ret2 [_, _] rfl rfl rfl ⟨a2, c2, rfl, rfl⟩ (Ent.refl _)
end Go.Proofs.YtfebpbflpdppiaaDoor
