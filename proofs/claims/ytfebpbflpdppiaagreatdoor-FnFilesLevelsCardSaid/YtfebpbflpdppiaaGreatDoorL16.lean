/- The reference's stacks: truncations at a rollback · The reference's stacks: changes, at whatever layer · The reference's stacks: what is committed; appends onto slices that are full · The reference's stacks: what a deed begins with; levels. -/
import Derived.Test.YtfebpbflpdppiaaGreatDoorL15
import Derived.ArgAppend
namespace Go.Proofs.YtfebpbflpdppiaaGreatDoor
open Go Go.Sl
set_option maxRecDepth 100000
/-- one cell of a block -/
def atC (b o : Nat) (v : Value) (e : TypeId) : HP := fun h => ∃ l, h b = some (cl l e) ∧ l[o]? = some v
theorem atC_of {b o : Nat} {v : Value} {e : TypeId} {l : List Value} {L : List HP} (h : l[o]? = some v) : Ent (blk b (cl l e) :: L) (atC b o v e :: L) := Ent.imp fun _ hb => ⟨l, hb, h⟩
theorem rd_atC {b o : Nat} {v : Value} {e : TypeId} : Rd [atC b o v e] ⟨b, o, none⟩ v := fun m w h => by
  obtain ⟨a, ha, l, hl, hv⟩ := h.2.2.2.head
  have := ha _ _ hl
  have e2 : w.heap[b]? = some (cl l e) := this
  simp [World.cell?, e2, cl, hv]
section
variable {P : Program} {n : Nat} {ds : List Deferred} {σ : Env} {m : Amb} {L : List HP} {Q : Exit → Act → World → Prop} {ops : Array Oper} {LS : List HP} {listed : Array Bool} {fuel : Nat}
theorem h_three {o p q : Oper} (i j k : Nat) (hr : Region.ready .any ops listed = [i, j, k]) (hi : ops[i]? = some o) (hg : o.guard = none) (hj : ops[j]? = some p) (hg' : p.guard = none) (hk : ops[k]? = some q) (hg'' : q.guard = none) (h : G n ds σ m L (St P o (fun a' w' => Sat m LS w' ∧ wpAnyH P .any ops Q (Sat m LS) fuel (listed.setIfInBounds i true) a' w') Q))
    (h' : G n ds σ m L (St P p (fun a' w' => Sat m LS w' ∧ wpAnyH P .any ops Q (Sat m LS) fuel (listed.setIfInBounds j true) a' w') Q)) (h'' : G n ds σ m L (St P q (fun a' w' => Sat m LS w' ∧ wpAnyH P .any ops Q (Sat m LS) fuel (listed.setIfInBounds k true) a' w') Q)) : G n ds σ m L (wpAnyH P .any ops Q (Sat m LS) (fuel + 1) listed) := fun a w h1 h2 h3 h4 =>
  wpAnyH_all hr (by simp) fun x hx => by
    simp at hx
    rcases hx with rfl | rfl | rfl
    · exact a_op hi hg h a w h1 h2 h3 h4
    · exact a_op hj hg' h' a w h1 h2 h3 h4
    · exact a_op hk hg'' h'' a w h1 h2 h3 h4
end
attribute [local irreducible] wpList Code.wp Exit.then Exit.inBlock bodyPost RunS RunV G St Ct Sat Ent At Rd GQ QL wpAny wpOp wpQuiet slP Sl.ex sep
section
variable {Z : HP} {sb lb lcap : Nat} {p1 p2 p3 : Value} {ma : Bool} {rest : List Value} {xs : List LV}
set_option maxHeartbeats 16000000 in
theorem chT_c (hxl : xs.length ≤ 1000) (hok : ∀ x ∈ xs, LVok Z x) (k : Nat) (x : LV) (hx : xs[k + 1]? = some x) (hkd : x.y.kd = .roll) (hlv : x.y.levels ≠ []) (o : Nat) (ho : o ≤ 8000000) (hres : (chL x.y false o []).small) :
    Ct Tryz.prog 39 #[.pointer (some ⟨sb, 0, none⟩), .int .i64 (k + 1 : Nat), .string (whatS false), .int .i64 (o : Nat), .slice none 0 0] [blk sb (cl [.slice (some ⟨lb, 0, none⟩) xs.length lcap, p1, p2, p3, .bool ma] 75), blk lb (cl (xs.flatMap lvCells ++ rest) 80), Z]
      (ChR Z sb lb lcap p1 p2 p3 ma rest xs.length (xs.map LV.lac) ((xs.map (·.y)).set (k + 1) (chL x.y false o []), chM x.y false o [], 0)) nev := by
  have hxo := hok x (List.mem_of_getElem? hx)
  have h0 : k + 1 < xs.length := (List.getElem?_eq_some_iff.1 hx).1
  obtain ⟨xs1, xs2, rfl, hxs1⟩ := split_at hx
  have hpre := pre_len hxs1
  have hset : (xs1 ++ x :: xs2).map (·.y) = xs1.map (·.y) ++ x.y :: xs2.map (·.y) := by simp
  rw [hset, set_split (by simpa using hxs1), lv_split]
  have hkeep : ∀ x' : LV, ∀ Z', Ent [Z'] [Z] → LVok Z' x' → ∀ y ∈ xs1 ++ x' :: xs2, LVok Z' y := fun x' Z' e h y hy => by
    rcases List.mem_append.1 hy with h1 | h1
    · exact (hok y (by simp [h1])).ent e
    · rcases List.mem_cons.1 h1 with rfl | h1
      · exact h
      · exact (hok y (by simp [h1])).ent e
  generalize hpr : xs1.flatMap lvCells = pre at hpre ⊢
  generalize hpo : xs2.flatMap lvCells ++ rest = post
  obtain ⟨⟨kd, off, bytes, wrote, shadow, levels⟩, va, vc, wa, wc, la, lc⟩ := x
  obtain ⟨hb1, hb2, hb3, hb4, hb5, hb6, hb7, hb8, hb9⟩ := hxo
  dsimp only at hkd hlv hb1 hb2 hb3 hb4 hb5 hb6 hb7 hb8 hb9 ⊢
  subst hkd
  have hll : 0 < levels.length := List.length_pos_iff.2 hlv
  refine Ct.of Tryz.func39 rfl Tryz.ntmps39 rfl fun m F => ?_
  repeat (first | refine wZ ?_ | intro b)
  refine l_plain rfl ?_
  apply s_val rfl rfl
  · exact RunS.v (r_index (i := k + 1) rfl rfl rfl h0)
  repeat (first | refine wZ ?_ | intro b)
  rw [decide_eq_true (by omega : (0 : Int) < ((k + 1 : Nat) : Int))]
  repeat (first | refine wZ ?_ | intro b)
  refine l_yes rfl rfl rfl ?_
  apply s_val (v := .string sRb) rfl rfl
  · exact r_load rfl rfl (rd_blk 1 rfl (lw_get hpre 0 (by decide)))
  repeat (first | refine wZ ?_ | intro b)
  rw [decide_eq_true (by omega : (0 : Int) < ((k + 1 : Nat) : Int))]
  repeat (first | refine wZ ?_ | intro b)
  refine l_yes rfl rfl rfl ?_
  apply s_val (v := .slice la levels.length lc) rfl rfl
  · exact r_load rfl rfl (rd_blk 1 rfl (lw_get hpre 5 (by decide)))
  repeat (first | refine wZ ?_ | intro b)
  rw [decide_eq_false (by omega : ¬ ((levels.length : Nat) : Int) = 0)]
  repeat (first | refine wZ ?_ | intro b)
  rw [decide_eq_true (by omega : (0 : Int) < ((k + 1 : Nat) : Int))]
  repeat (first | refine wZ ?_ | intro b)
  revert b; intro tb
  refine l_plain rfl ?_
  apply s_val (v := .slice va bytes.length vc) rfl rfl
  · exact r_load rfl rfl (rd_blk 2 rfl (lw_get hpre 2 (by decide)))
  refine G.ent (L' := slP (.slice (some ⟨tb, 0, none⟩) 0 0) 123 1 [] :: _) (slP_blk (k := 0) rfl (Nat.zero_le _)) ?_
  refine l_plain rfl (s_append (i := 0) rfl rfl rfl (RE hb1 3 rfl) rfl rfl rfl (i16s_one _) (by omega) (by simp only [maxLen]; omega) rfl ?_)
  intro a1 c1
  rw [List.nil_append, Nat.zero_add]
  repeat (first | refine wZ ?_ | intro b)
  refine l_plain rfl ?_
  refine s_store (i := 2) rfl rfl rfl rfl rfl rfl (lw_lt hpre 2 (by decide)) ?_
  rw [lw_set hpre 2 (by decide)]
  simp only [List.set_cons_succ, List.set_cons_zero]
  repeat (first | refine wZ ?_ | intro b)
  refine l_yes rfl rfl rfl ?_
  apply s_val (v := .slice a1 bytes.length c1) rfl rfl
  · exact r_load rfl rfl (rd_blk 0 rfl (lw_get hpre 2 (by decide)))
  repeat (first | refine wZ ?_ | intro b)
  have hsh1 : (if o < bytes.length then max shadow bytes.length else shadow) ≤ 1000000 := by split <;> omega
  refine c_mid (α := Unit) (fun _ => [(0, .pointer (some ⟨sb, 0, none⟩)), (2, .string (whatS false)), (3, .int .i64 (o : Nat)), (4, .slice none 0 0), (11, .pointer (some ⟨lb, 0 + (k + 1) * 6, none⟩))])
    (fun _ => blk lb (cl (pre ++ ([.string KD.roll.s, .int .i64 (off : Nat), .slice a1 bytes.length c1, .slice wa wrote.length wc, .int .i64 ((if o < bytes.length then max shadow bytes.length else shadow : Nat) : Int), .slice la levels.length lc] ++ post)) 80) :: slP (.slice a1 bytes.length c1) 123 1 (i16s bytes) :: blk sb (cl [.slice (some ⟨lb, 0, none⟩) (xs1 ++ (⟨⟨.roll, off, bytes, wrote, shadow, levels⟩, va, vc, wa, wc, la, lc⟩ : LV) :: xs2).length lcap, p1, p2, p3, .bool ma] 75) :: Z :: F) (fun _ => True) ?_ ?_
  · by_cases hlt : o < bytes.length
    · rw [decide_eq_true (by omega : (o : Int) < ((bytes.length : Nat) : Int)), if_pos hlt]
      repeat (first | refine wY ?_ | intro b)
      refine h_any [atC lb (0 + (k + 1) * 6 + 2) (.slice a1 bytes.length c1) 80] 14 rfl ?_
      have hE : ∀ (sv : Value) (R : List HP), Ent (blk lb (cl (pre ++ ([.string KD.roll.s, .int .i64 (off : Nat), .slice a1 bytes.length c1, .slice wa wrote.length wc, sv, .slice la levels.length lc] ++ post)) 80) :: R) [atC lb (0 + (k + 1) * 6 + 2) (.slice a1 bytes.length c1) 80] := fun sv R => (atC_of (lw_get hpre 2 (by decide))).trans (Ent.left [_] _)
      have hE0 := hE (.int .i64 (shadow : Nat)) (slP (.slice a1 bytes.length c1) 123 1 (i16s bytes) :: blk sb (cl [.slice (some ⟨lb, 0, none⟩) (xs1 ++ (⟨⟨.roll, off, bytes, wrote, shadow, levels⟩, va, vc, wa, wc, la, lc⟩ : LV) :: xs2).length lcap, p1, p2, p3, .bool ma] 75) :: Z :: F)
      refine h_take (by assumption) 0 rfl (by kernel_rfl) (by kernel_rfl) (by kernel_rfl) rfl rfl rfl pQ rV ?_
      refine h_take (by assumption) 1 rfl (by kernel_rfl) (by kernel_rfl) (by kernel_rfl) rfl rfl rfl pQ rV ?_
      refine h_take (by assumption) 2 rfl (by kernel_rfl) (by kernel_rfl) (by kernel_rfl) rfl rfl rfl pQ rV ?_
      refine h_take (by assumption) 3 rfl (by kernel_rfl) (by kernel_rfl) (by kernel_rfl) rfl rfl rfl pQ rV ?_
      refine h_take (by assumption) 5 rfl (by kernel_rfl) (by kernel_rfl) (by kernel_rfl) rfl rfl rfl pQ rV ?_
      refine h_take (by assumption) 6 rfl (by kernel_rfl) (by kernel_rfl) (by kernel_rfl) rfl rfl rfl pQ rV ?_
      refine h_take (by assumption) 7 rfl (by kernel_rfl) (by kernel_rfl) (by kernel_rfl) rfl rfl rfl pQ rV ?_
      refine h_take (v := .slice a1 bytes.length c1) hE0 8 rfl (by kernel_rfl) (by kernel_rfl) (by kernel_rfl) rfl rfl rfl pQ (r_load rfl rfl rd_atC) ?_
      refine h_take (by assumption) 9 rfl (by kernel_rfl) (by kernel_rfl) (by kernel_rfl) rfl rfl rfl pQ rV ?_
      refine h_one 4 (by kernel_rfl) rfl rfl ?_
      apply s_val (v := .int .i64 (shadow : Nat)) rfl rfl
      · exact r_load rfl rfl (rd_blk 0 rfl (lw_get hpre 4 (by decide)))
      refine h_then hE0 ?_
      refine h_take (by assumption) 10 rfl (by kernel_rfl) (by kernel_rfl) (by kernel_rfl) rfl rfl rfl pQ rV ?_
      rw [show max ((shadow : Nat) : Int) ((bytes.length : Nat) : Int) = ((max shadow bytes.length : Nat) : Int) from by omega]
      refine h_take (by assumption) 11 rfl (by kernel_rfl) (by kernel_rfl) (by kernel_rfl) rfl rfl rfl pQ rV ?_
      refine h_take (by assumption) 12 rfl (by kernel_rfl) (by kernel_rfl) (by kernel_rfl) rfl rfl rfl pQ rV ?_
      refine h_one 13 (by kernel_rfl) rfl rfl ?_
      refine s_store (i := 0) rfl rfl rfl rfl rfl rfl (lw_lt hpre 4 (by decide)) ?_
      rw [lw_set hpre 4 (by decide)]
      simp only [List.set_cons_succ, List.set_cons_zero]
      refine h_then (hE _ _) ?_
      refine h_done (by kernel_rfl) ?_
      refine q_then_n ?_
      exact at_intro () trivial ⟨rfl, rfl, rfl, rfl, rfl, trivial⟩ (Ent.refl _)
    · rw [decide_eq_false (by omega : ¬ (o : Int) < ((bytes.length : Nat) : Int)), if_neg hlt]
      repeat (first | refine wZ ?_ | intro b)
      exact at_intro () trivial ⟨rfl, rfl, rfl, rfl, rfl, trivial⟩ (Ent.refl _)
  rintro _ _
  generalize hsh : (if o < bytes.length then max shadow bytes.length else shadow) = sh at hsh1
  have hcM : chM ⟨.roll, off, bytes, wrote, shadow, levels⟩ false o [] = grM bytes sh o := by unfold chM; rw [if_neg (by simp), hsh]
  rw [hcM]
  have hgl : (grF bytes sh o).length = max bytes.length o := grF_length _ _ _
  generalize hgm : grM bytes sh o = gm
  generalize hgg : grF bytes sh o = gg at hgl
  have hcL : chL ⟨.roll, off, bytes, wrote, shadow, levels⟩ false o [] = ⟨.roll, off, cutF gg o, wrote.take o, sh, levels⟩ := by unfold chL; simp only [hsh, hgg]; rfl
  rw [hcL] at hres ⊢
  repeat (first | refine wZ ?_ | intro b)
  refine l_plain rfl (s_call rfl rfl (grown_c hpre (by omega) bytes a1 c1 sh o (by omega) (by omega) (by omega)) [0, 0] rfl ?_ (fun _ _ h => h.elim))
  rintro _ _ ⟨a2, c2, rfl, rfl⟩
  rw [hgm, hgg]
  have hhi := Src.hi (hi := min o wrote.length) hb3 (by omega)
  rw [Nat.mul_one, bls_take, show wrote.take (min o wrote.length) = wrote.take o from by
    rcases Nat.le_total o wrote.length with h | h
    · rw [Nat.min_eq_left h]
    · rw [Nat.min_eq_right h, List.take_of_length_le (Nat.le_refl _), List.take_of_length_le h]] at hhi
  cases gm
  all_goals
    repeat (first | refine wY ?_ | intro b)
    refine h_any [] 18 rfl ?_
    have hEn : ∀ L : List HP, Ent L [] := fun _ => Ent.nil
    refine h_take Ent.nil 0 rfl (by kernel_rfl) (by kernel_rfl) (by kernel_rfl) rfl rfl rfl pQ rV ?_
    refine h_take Ent.nil 2 rfl (by kernel_rfl) (by kernel_rfl) (by kernel_rfl) rfl rfl rfl pQ rV ?_
    refine h_take Ent.nil 3 rfl (by kernel_rfl) (by kernel_rfl) (by kernel_rfl) rfl rfl rfl pQ rV ?_
    refine h_take Ent.nil 4 rfl (by kernel_rfl) (by kernel_rfl) (by kernel_rfl) rfl rfl rfl pQ rV ?_
    refine h_take Ent.nil 6 rfl (by kernel_rfl) (by kernel_rfl) (by kernel_rfl) rfl rfl rfl pQ rV ?_
    refine h_take Ent.nil 7 rfl (by kernel_rfl) (by kernel_rfl) (by kernel_rfl) rfl rfl rfl pQ rV ?_
    refine h_take Ent.nil 8 rfl (by kernel_rfl) (by kernel_rfl) (by kernel_rfl) rfl rfl rfl pQ rV ?_
    refine h_take Ent.nil 9 rfl (by kernel_rfl) (by kernel_rfl) (by kernel_rfl) rfl rfl rfl pQ rV ?_
    repeat' first
      | refine h_take Ent.nil 11 rfl (by kernel_rfl) (by kernel_rfl) (by decide +kernel) rfl rfl rfl pQ rV ?_
      | refine h_take Ent.nil 12 rfl (by kernel_rfl) (by kernel_rfl) (by decide +kernel) rfl rfl rfl pQ rV ?_
      | refine h_take (v := .slice wa (min o wrote.length) wc) Ent.nil 13 rfl (by kernel_rfl) (by kernel_rfl) (by decide +kernel) rfl rfl rfl pQ (RunS.v (r_slTo rfl (opd_int rfl (by omega)) (by omega))) ?_
      | refine h_take Ent.nil 15 rfl (by kernel_rfl) (by kernel_rfl) (by decide +kernel) rfl rfl rfl pQ rV ?_
      | refine h_take Ent.nil 16 rfl (by kernel_rfl) (by kernel_rfl) (by decide +kernel) rfl rfl rfl pQ rV ?_
      | refine h_three 1 5 10 (by decide +kernel) rfl rfl rfl rfl rfl rfl ?_ ?_ ?_
      | refine h_two 1 5 (by decide +kernel) rfl rfl rfl rfl ?_ ?_
      | refine h_two 1 10 (by decide +kernel) rfl rfl rfl rfl ?_ ?_
      | refine h_two 5 10 (by decide +kernel) rfl rfl rfl rfl ?_ ?_
      | refine h_one 1 (by decide +kernel) rfl rfl ?_
      | refine h_one 5 (by decide +kernel) rfl rfl ?_
      | refine h_one 10 (by decide +kernel) rfl rfl ?_
      | (refine s_build1 rfl rfl rfl rfl rfl rfl rfl fun tb2 => ?_; refine h_then Ent.nil ?_)
      | (apply s_val (v := .slice wa wrote.length wc) rfl rfl; (first | exact r_load rfl rfl (rd_blk 1 rfl (lw_get hpre 3 (by decide))) | exact r_load rfl rfl (rd_blk 2 rfl (lw_get hpre 3 (by decide)))); refine h_then Ent.nil ?_)
      | fail
    all_goals
      refine h_one 14 (by kernel_rfl) rfl rfl ?_
      refine G.ent (L' := slP (.slice (some ⟨_, 0, none⟩) 0 0) 4 1 [] :: _) (slP_blk (k := 0) rfl (Nat.zero_le _)) ?_
      refine s_append (i := 0) rfl rfl rfl (RE hhi 4 rfl) rfl rfl rfl (bls_one _) (by omega) (by simp only [maxLen]; omega) rfl ?_
      intro a3 c3
      rw [List.nil_append, Nat.zero_add]
      refine h_then Ent.nil ?_
      repeat' first
        | refine h_take Ent.nil 15 rfl (by kernel_rfl) (by kernel_rfl) (by decide +kernel) rfl rfl rfl pQ rV ?_
        | refine h_take Ent.nil 16 rfl (by kernel_rfl) (by kernel_rfl) (by decide +kernel) rfl rfl rfl pQ rV ?_
        | fail
      refine h_one 17 (by kernel_rfl) rfl rfl ?_
      refine s_store (i := 2) rfl rfl rfl rfl rfl rfl (lw_lt hpre 3 (by decide)) ?_
      rw [lw_set hpre 3 (by decide)]
      simp only [List.set_cons_succ, List.set_cons_zero]
      refine h_then Ent.nil ?_
      refine h_done (by kernel_rfl) ?_
      refine q_then_n ?_
      repeat (first | refine wZ ?_ | intro b)
      refine G.ent (Ent.trans (arr_ent 0 [3] _) (Ent.refl _)) ?_
      refine src_sl1 fun hg1 hgc1 => ?_
      refine G.ent (Ent.trans (arr_ent 0 [0, 3] _) (sep_shut [_, _] _)) ?_
      refine l_plain rfl ?_
      apply s_val (v := .slice a2 (max bytes.length o) c2) rfl rfl
      · exact r_load rfl rfl (rd_blk 1 rfl (lw_get hpre 2 (by decide)))
      repeat (first | refine wZ ?_ | intro b)
      refine l_plain rfl (s_call rfl rfl (cut_c gg a2 (max bytes.length o) c2 o (hg1.ent sep2_l) hgc1 (by omega) (by omega)) [0] rfl ?_ (fun _ _ h => h.elim))
      rintro _ _ ⟨a4, c4, rfl, rfl⟩
      repeat (first | refine wZ ?_ | intro b)
      refine l_plain rfl ?_
      refine s_store (i := 2) rfl rfl rfl rfl rfl rfl (lw_lt hpre 2 (by decide)) ?_
      rw [lw_set hpre 2 (by decide)]
      repeat (first | refine wZ ?_ | intro b)
      refine G.ent (Ent.trans (arr_ent 0 [2] _) (Ent.refl _)) ?_
      refine src_sl1 fun hw1 hwc1 => ?_
      refine G.ent (Ent.trans (arr_ent 0 [3] _) (Ent.refl _)) ?_
      refine src_sl1 fun hm1 hmc1 => ?_
      have hwl : (cutF gg o).length = o := cutF_length _ _
      have hml : (wrote.take o).length = min o wrote.length := List.length_take
      generalize hZ' : sep [slP (.slice a4 o c4) 123 1 (i16s (cutF gg o)), sep [slP (.slice a3 (min o wrote.length) c3) 4 1 (bls (wrote.take o)), sep [slP (.slice a2 (max bytes.length o) c2) 123 1 (i16s gg), Z]]] = Z'
      have hZZ : Ent [Z'] [Z] := by rw [← hZ']; exact sep2_r.trans (sep2_r.trans sep2_r)
      have hw2 : Src [Z'] 1 (.slice a4 (cutF gg o).length c4) (cutF gg o).length (i16s (cutF gg o)) := by rw [hwl, ← hZ']; exact hw1.ent sep2_l
      have hm2 : Src [Z'] 1 (.slice a3 (wrote.take o).length c3) (wrote.take o).length (bls (wrote.take o)) := by rw [hml, ← hZ']; exact (hm1.ent sep2_l).ent sep2_r
      refine e_ret1 _ rfl rfl ⟨rfl, xs1 ++ ⟨⟨.roll, off, cutF gg o, wrote.take o, sh, levels⟩, a4, c4, a3, c3, la, lc⟩ :: xs2, Z', by simp, by simp [LV.lac], hkeep _ _ hZZ ⟨hw2, by rw [hwl]; exact hwc1, hm2, by rw [hml]; exact hmc1, hres.1, hres.2.1, hb7, hres.2.2.2.1, hb9⟩, hZZ, rfl⟩ ?_
      rw [lv_split, hpr, hpo, ← hZ']
      dsimp only
      rw [hwl, hml]
      exact Ent.trans (arr_ent 0 [4, 2, 1, 0, 0] _) (Ent.append [_, _] ((Ent.cons (sep_shut [_, _] F)).trans (sep_shut [_, _] F)))
end
end Go.Proofs.YtfebpbflpdppiaaGreatDoor
namespace Go.Proofs.YtfebpbflpdppiaaGreatDoor
open Go Go.Sl
set_option maxRecDepth 100000
theorem chF_zero {xs : List LV} {x : LV} (hx : xs[0]? = some x) (wr : Bool) (o : Nat) (b : List Int) : chF (xs.map (·.y)) 0 wr o b = ((xs.map (·.y)).set 0 (chB0 x.y wr o b), false, 0) := by
  unfold chF
  rw [List.getElem?_map, hx]
  rfl
theorem chF_inner {xs : List LV} {k : Nat} {x : LV} (hx : xs[k + 1]? = some x) (hk : x.y.kd = .inner) (wr : Bool) (o : Nat) (b : List Int) : chF (xs.map (·.y)) (k + 1) wr o b = chF (xs.map (·.y)) k wr (o + x.y.off) b := by
  conv => lhs; unfold chF
  rw [List.getElem?_map, hx]
  simp only [Option.map_some, hk]
theorem chF_perm {xs : List LV} {k : Nat} {x : LV} (hx : xs[k + 1]? = some x) (hk : x.y.kd = .roll) (hl : x.y.levels = []) (wr : Bool) (o : Nat) (b : List Int) : chF (xs.map (·.y)) (k + 1) wr o b = (xs.map (·.y), false, 3) := by
  conv => lhs; unfold chF
  rw [List.getElem?_map, hx]
  simp only [Option.map_some, hk, hl]
theorem chF_roll {xs : List LV} {k : Nat} {x : LV} (hx : xs[k + 1]? = some x) (hk : x.y.kd = .roll) (hl : x.y.levels ≠ []) (wr : Bool) (o : Nat) (b : List Int) : chF (xs.map (·.y)) (k + 1) wr o b = ((xs.map (·.y)).set (k + 1) (chL x.y wr o b), chM x.y wr o b, 0) := by
  conv => lhs; unfold chF
  rw [List.getElem?_map, hx]
  simp only [Option.map_some, hk]
theorem set_mem {α : Type} {l : List α} {k : Nat} {x : α} (h : k < l.length) : x ∈ l.set k x := List.mem_iff_getElem.2 ⟨k, by simpa using h, by simp⟩
attribute [local irreducible] wpList Code.wp Exit.then Exit.inBlock bodyPost RunS RunV G St Ct Sat Ent At Rd GQ QL wpAny wpOp wpQuiet slP Sl.ex sep
section
variable {Z : HP} {sb lb lcap : Nat} {p1 p2 p3 : Value} {ma : Bool} {rest : List Value} {xs : List LV}
set_option maxHeartbeats 4000000 in
theorem change_c (hxl : xs.length ≤ 1000) (hok : ∀ x ∈ xs, LVok Z x) (hB : StB xs) (wr : Bool) (b : List Int) (ba : Option Addr) (bc : Nat) (hb : Src [Z] 1 (.slice ba b.length bc) b.length (i16s b)) (hbl : b.length ≤ 1000000) (hbt : wr = false → b = [] ∧ ba = none ∧ bc = 0) : ∀ k, k < xs.length → ∀ o : Nat, o + 1000000 * k ≤ 8000000 →
    (∀ y ∈ (chF (xs.map (·.y)) k wr o b).1, y.small) →
    Ct Tryz.prog 39 #[.pointer (some ⟨sb, 0, none⟩), .int .i64 (k : Nat), .string (whatS wr), .int .i64 (o : Nat), .slice ba b.length bc] [blk sb (cl [.slice (some ⟨lb, 0, none⟩) xs.length lcap, p1, p2, p3, .bool ma] 75), blk lb (cl (xs.flatMap lvCells ++ rest) 80), Z]
      (ChR Z sb lb lcap p1 p2 p3 ma rest xs.length (xs.map LV.lac) (chF (xs.map (·.y)) k wr o b)) nev := by
  intro k
  induction k with
  | zero =>
    intro hk o ho hres
    obtain ⟨x, hx⟩ : ∃ x, xs[0]? = some x := ⟨xs[0], List.getElem?_eq_getElem hk⟩
    rw [chF_zero hx] at hres ⊢
    exact chB_c hok x hx wr o b ba bc hb hbl (by omega) (hres _ (set_mem (by simpa using hk)))
  | succ k ih =>
    intro hk o ho hres
    obtain ⟨x, hx⟩ : ∃ x, xs[k + 1]? = some x := ⟨xs[k + 1], List.getElem?_eq_getElem hk⟩
    have hxo := hok x (List.mem_of_getElem? hx)
    have hnb := hB k x hx
    cases hkd : x.y.kd with
    | base => exact absurd hkd hnb
    | roll =>
      by_cases hlv : x.y.levels = []
      · rw [chF_perm hx hkd hlv]
        obtain ⟨⟨kd, off, bytes, wrote, shadow, levels⟩, va, vc, wa, wc, la, lc⟩ := x
        dsimp only at hkd hlv
        subst hkd hlv
        refine Ct.of Tryz.func39 rfl Tryz.ntmps39 rfl fun m F => ?_
        repeat (first | refine wZ ?_ | intro b)
        refine l_plain rfl ?_
        apply s_val rfl rfl
        · exact RunS.v (r_index (i := k + 1) rfl rfl rfl hk)
        repeat (first | refine wZ ?_ | intro b)
        rw [decide_eq_true (by omega : (0 : Int) < ((k + 1 : Nat) : Int))]
        repeat (first | refine wZ ?_ | intro b)
        refine l_yes rfl rfl rfl ?_
        apply s_val (v := .string sRb) rfl rfl
        · exact r_load rfl rfl (rd_blk 1 rfl (lc_get hx 0 (by decide)))
        repeat (first | refine wZ ?_ | intro b)
        rw [decide_eq_true (by omega : (0 : Int) < ((k + 1 : Nat) : Int))]
        repeat (first | refine wZ ?_ | intro b)
        refine l_yes rfl rfl rfl ?_
        apply s_val (v := .slice la 0 lc) rfl rfl
        · exact r_load rfl rfl (rd_blk 1 rfl (lc_get hx 5 (by decide)))
        repeat (first | refine wZ ?_ | intro b)
        rw [decide_eq_true (by omega : ((0 : Nat) : Int) = 0)]
        repeat (first | refine wZ ?_ | intro b)
        exact e_ret1 _ rfl rfl ⟨rfl, xs, Z, rfl, ⟨rfl, rfl⟩, hok, Ent.refl _, rfl⟩ (Ent.refl _)
      · rw [chF_roll hx hkd hlv] at hres ⊢
        have hr := hres _ (set_mem (by simpa using hk))
        cases wr with
        | true => exact chW_c hxl hok k x hx hkd hlv o b ba bc hb hbl (by omega) hr
        | false =>
          obtain ⟨rfl, rfl, rfl⟩ := hbt rfl
          exact chT_c hxl hok k x hx hkd hlv o (by omega) hr
    | inner =>
      rw [chF_inner hx hkd] at hres ⊢
      have hon := hxo.on
      have ih2 := ih (by omega) (o + x.y.off) (by omega) hres
      generalize chF (xs.map (·.y)) k wr (o + x.y.off) b = r at ih2 ⊢
      obtain ⟨⟨kd, off, bytes, wrote, shadow, levels⟩, va, vc, wa, wc, la, lc⟩ := x
      dsimp only at hkd hon ih2
      subst hkd
      refine Ct.of Tryz.func39 rfl Tryz.ntmps39 rfl fun m F => ?_
      repeat (first | refine wZ ?_ | intro b)
      refine l_plain rfl ?_
      apply s_val rfl rfl
      · exact RunS.v (r_index (i := k + 1) rfl rfl rfl hk)
      repeat (first | refine wZ ?_ | intro b)
      rw [decide_eq_true (by omega : (0 : Int) < ((k + 1 : Nat) : Int))]
      repeat (first | refine wZ ?_ | intro b)
      refine l_yes rfl rfl rfl ?_
      apply s_val (v := .string sInner) rfl rfl
      · exact r_load rfl rfl (rd_blk 1 rfl (lc_get hx 0 (by decide)))
      repeat (first | refine wZ ?_ | intro b)
      refine l_plain rfl ?_
      apply s_val (v := .int .i64 (off : Nat)) rfl rfl
      · exact r_load rfl rfl (rd_blk 1 rfl (lc_get hx 1 (by decide)))
      repeat (first | refine wZ ?_ | intro b)
      refine l_plain rfl (s_call rfl rfl ih2 [0, 0, 0] rfl ?_ (fun _ _ h => h.elim))
      rintro v B hR
      obtain ⟨rfl, xs', Z', h1, h2, h3, h4, rfl⟩ := hR
      repeat (first | refine wZ ?_ | intro b)
      exact e_ret1 _ rfl rfl ⟨rfl, xs', Z', h1, h2, h3, h4, rfl⟩ (Ent.refl _)
end
end Go.Proofs.YtfebpbflpdppiaaGreatDoor
namespace Go.Proofs.YtfebpbflpdppiaaGreatDoor
open Go Go.Sl
set_option maxRecDepth 100000
/-- the sum of the offsets of the layers 1 .. k -/
def oSum (l : List Ly) : Nat → Nat
  | 0 => 0
  | k + 1 => oSum l k + match l[k + 1]? with
    | some x => x.off
    | none => 0
/-- the bytes p are committed through the layers k .. 1 into the base -/
def becF (l : List Ly) (k : Nat) (p : List Int) : List Ly := match l[0]? with
  | some x => l.set 0 { x with bytes := cutF x.bytes (oSum l k) ++ p }
  | none => l
theorem oSum_succ {xs : List LV} {k : Nat} {x : LV} (hx : xs[k + 1]? = some x) : oSum (xs.map (·.y)) (k + 1) = oSum (xs.map (·.y)) k + x.y.off := by
  conv => lhs; unfold oSum
  rw [List.getElem?_map, hx]
  rfl
theorem becF_eq {xs : List LV} {x : LV} (hx : xs[0]? = some x) (k : Nat) (p : List Int) : becF (xs.map (·.y)) k p = (xs.map (·.y)).set 0 { x.y with bytes := cutF x.y.bytes (oSum (xs.map (·.y)) k) ++ p } := by
  unfold becF
  rw [List.getElem?_map, hx]
  rfl
/-- a slice that is its call's own, or that is full -/
def slG (v : Value) (e size : Nat) (l : List Value) : HP := fun h => slP v e size l h ∨ ∃ b k rest, v = .slice (some ⟨b, 0, none⟩) k k ∧ l.length = k * size ∧ k ≤ maxLen ∧ blk b (cl (l ++ rest) e) h
section
variable {P : Program} {n : Nat} {ds : List Deferred} {σ : Env} {m : Amb} {L R : List HP} {Q : Exit → Act → World → Prop} {K : Act → World → Prop}
variable {d : Nat} {ty : TypeId} {pos : String} {aft : Array Edge} {gd : Option (Nat × Bool)} {x y : Operand} {t e : TypeId}
theorem slG_P {v : Value} {size : Nat} {l : List Value} : Ent (slP v e size l :: L) (slG v e size l :: L) := Ent.imp fun _ h => Or.inl h
theorem slG_full {b k size : Nat} {l rest : List Value} (h1 : l.length = k * size) (h2 : k ≤ maxLen) : Ent (blk b (cl (l ++ rest) e) :: L) (slG (.slice (some ⟨b, 0, none⟩) k k) e size l :: L) := Ent.imp fun _ h => Or.inr ⟨b, k, rest, rfl, h1, h2, h⟩
theorem slG_open {a : Option Addr} {k c size : Nat} {l : List Value} {Φ : Act → World → Prop} (h0 : a = none → k = 0 → c = 0 → l = [] → G n ds σ m L Φ)
    (h1 : ∀ b rest, a = some ⟨b, 0, none⟩ → l.length = k * size → k ≤ c → c ≤ maxLen → ((l ++ rest).length = c * size ∨ k = c) → G n ds σ m (blk b (cl (l ++ rest) e) :: L) Φ) : G n ds σ m (slG (.slice a k c) e size l :: L) Φ := fun ac w g1 g2 g3 g4 => by
  obtain ⟨ha, hg, s1, s2, s3, hA, hL⟩ := g4.2.2.2
  rcases hA with hA | ⟨b, k', rest, hv, e2, e3, hb⟩
  · exact slP_open (σ := σ) (ds := ds) (n := n) (m := m) (L := L) (Φ := Φ) (e := e) h0 (fun b rest e1 e2 e3 e4 e5 => h1 b rest e1 e2 e3 e4 (Or.inl e5)) ac w g1 g2 g3 ⟨g4.1, g4.2.1, g4.2.2.1, ha, hg, s1, s2, s3, hA, hL⟩
  · cases hv
    exact h1 b rest rfl e2 (Nat.le_refl _) e3 (Or.inr rfl) ac w g1 g2 g3 ⟨g4.1, g4.2.1, g4.2.2.1, ha, hg, s1, s2, s3, hb, hL⟩
theorem s_appendF {size bytes k kk : Nat} {z sv : Value} {b1 o1 : Nat} {l news : List Value} [h1 : TyU P t (.slice e)] [h2 : TyI P e size bytes z] (hx : opd σ x = some (.slice (some ⟨b1, o1, none⟩) k k)) (hy : opd σ y = some sv)
    (hk1 : l.length = k * size) (hr1 : RdN L b1 o1 l) (hs : Src L size sv kk news) (hz : z.cells.size = size) (hsz : Nat.blt 0 size = true) (hkk : 0 < kk)
    (hb : (k + kk) * bytes ≤ 140737488355328) (hm : k + kk ≤ maxLen) (hk : Nat.blt d n = true)
    (h : ∀ a c, G n ds ((d, .slice a (k + kk) c) :: σ) m (slP (.slice a (k + kk) c) e size (l ++ news) :: L) K) :
    G n ds σ m L (St P ⟨some d, .call ⟨.builtin .append, #[x, y], #[t, t]⟩, ty, pos, aft, gd⟩ K Q) := by
  have hsz := ltOf hsz
  obtain ⟨info, hinfo, hi1, hi2, hi3⟩ := h2.h
  refine s_eff rfl hk fun a w g hw => ?_
  cases hs with
  | nil => omega
  | emp _ _ => omega
  | some b2 o2 _ c2 _ hkk2 hr2 =>
      obtain ⟨v', w', hrun, ho', hg'⟩ := run_append_arg_grows (P := P) w t ty e info z size bytes h1.h hinfo hi3 hi1 hi2 hz hsz ⟨b1, o1, none⟩ k k l hk1 (fun j u' hu' => by rw [addr_add]; exact hr1.get hu' m w hw)
        ⟨b2, o2, none⟩ kk c2 news hkk2 (fun j u' hu' => by rw [addr_add]; exact hr2.get hu' m w hw) (by omega) hm hb
      have hown : w'.ownsRow 0 e size v' (k + kk) (l ++ news) := by
        refine ⟨ho'.1, ?_⟩
        rcases ho'.2 with h | ⟨g', cap, cur, q1, _, q3⟩
        · exact Or.inl h
        · exact Or.inr ⟨g', cap, cur, q1, Nat.zero_le _, q3⟩
      have hgr : Sat m (slP v' e size (l ++ news) :: L) w' := by
        refine Sat.grown (v := .slice none 0 0) (l := []) (e := e) (size := size) (hw.ent slP_nil) hg' hown fun b' hb' => Or.inr ?_
        rcases ho'.2 with ⟨rfl, _⟩ | ⟨g', cap, cur, rfl, q2, _⟩
        · simp [Value.ownBlock] at hb'
        · simp [Value.ownBlock] at hb'
          omega
      obtain ⟨a', c', rfl⟩ : ∃ a' c', v' = .slice a' (k + kk) c' := by
        rcases ho'.2 with ⟨rfl, h0⟩ | ⟨b', cap', cur', rfl, _⟩
        · exact ⟨none, 0, by rw [h0]⟩
        · exact ⟨_, _, rfl⟩
      refine ⟨_, w', ?_, _, hgr, h a' c'⟩
      simp [execOp, resolve, opd_eval g hx, opd_eval g hy, invoke, builtin, hrun]
end
attribute [local irreducible] wpList Code.wp Exit.then Exit.inBlock bodyPost RunS RunV G St Ct Sat Ent At Rd GQ QL wpAny wpOp wpQuiet slP Sl.ex sep
section
variable {Z : HP} {sb lb lcap : Nat} {p1 p2 p3 p4 : Value} {rest : List Value} {xs : List LV}
/-- what stands behind a commit -/
def BeR (Z : HP) (sb lb lcap : Nat) (p1 p2 p3 p4 : Value) (rest : List Value) (n : Nat) (LL : List (Option Addr × Nat)) (r : List Ly) (B : List HP) : Prop :=
  ∃ (xs' : List LV) (Z' : HP), xs'.map (·.y) = r ∧ (xs'.length = n ∧ xs'.map LV.lac = LL) ∧ (∀ x ∈ xs', LVok Z' x) ∧ Ent [Z'] [Z] ∧ B = [blk sb (cl [.slice (some ⟨lb, 0, none⟩) n lcap, p1, p2, p3, p4] 75), blk lb (cl (xs'.flatMap lvCells ++ rest) 80), Z']
set_option maxHeartbeats 4000000 in
theorem become_c (hxl : xs.length ≤ 1000) (hok : ∀ x ∈ xs, LVok Z x) (k : Nat) (hk : k < xs.length) (p : List Int) (pa : Option Addr) (pc : Nat) (hp : Src [Z] 1 (.slice pa p.length pc) p.length (i16s p)) (ho : oSum (xs.map (·.y)) k ≤ 1000000) (hres : ∀ y ∈ becF (xs.map (·.y)) k p, y.small) :
    Ct Tryz.prog 53 #[.pointer (some ⟨sb, 0, none⟩), .int .i64 (k : Nat), .slice pa p.length pc] [blk sb (cl [.slice (some ⟨lb, 0, none⟩) xs.length lcap, p1, p2, p3, p4] 75), blk lb (cl (xs.flatMap lvCells ++ rest) 80), Z]
      (fun _ B => BeR Z sb lb lcap p1 p2 p3 p4 rest xs.length (xs.map LV.lac) (becF (xs.map (·.y)) k p) B) nev := by
  have h0 : 0 < xs.length := by omega
  obtain ⟨x, hx⟩ : ∃ x, xs[0]? = some x := ⟨xs[0], List.getElem?_eq_getElem h0⟩
  rw [becF_eq hx] at hres ⊢
  have hr := hres _ (set_mem (by simpa using h0))
  refine Ct.of Tryz.func53 rfl Tryz.ntmps53 rfl fun m F => ?_
  repeat (first | refine wZ ?_ | intro b)
  refine c_loop (α := Nat × Nat) (fun y => [(6, .int .i64 (y.2 : Nat)), (1, .int .i64 (y.1 : Nat)), (0, .pointer (some ⟨sb, 0, none⟩)), (2, .slice pa p.length pc)])
    (fun _ => blk sb (cl [.slice (some ⟨lb, 0, none⟩) xs.length lcap, p1, p2, p3, p4] 75) :: blk lb (cl (xs.flatMap lvCells ++ rest) 80) :: Z :: F) (fun y => y.1 ≤ k ∧ y.2 + oSum (xs.map (·.y)) y.1 = oSum (xs.map (·.y)) k) (fun y => y.1) (k, 0)
    ⟨Nat.le_refl _, Nat.zero_add _⟩ (by exact ⟨rfl, rfl, rfl, rfl, trivial⟩) (Ent.refl _) ?_
  rintro ⟨j, o⟩ ⟨hj1, hj2⟩
  dsimp only at hj1 hj2 ⊢
  cases j with
  | succ j =>
    repeat (first | refine wZ ?_ | intro b)
    rw [decide_eq_true (by omega : (0 : Int) < ((j + 1 : Nat) : Int))]
    obtain ⟨y, hy⟩ : ∃ y, xs[j + 1]? = some y := ⟨xs[j + 1], List.getElem?_eq_getElem (by omega)⟩
    have hos := oSum_succ hy
    repeat (first | refine wZ ?_ | intro b)
    refine l_plain rfl ?_
    apply s_val rfl rfl
    · exact RunS.v (r_index (i := j + 1) rfl rfl rfl (by omega))
    repeat (first | refine wZ ?_ | intro b)
    refine l_plain rfl ?_
    apply s_val (v := .int .i64 (y.y.off : Nat)) rfl rfl
    · exact r_load rfl rfl (rd_blk 1 rfl (lc_get hy 1 (by decide)))
    repeat (first | refine wZ ?_ | intro b)
    exact at_intro (j, o + y.y.off) ⟨⟨by dsimp only; omega, by dsimp only; omega⟩, by dsimp only; omega⟩ ⟨rfl, rfl, rfl, rfl, trivial⟩ (Ent.refl _)
  | zero =>
    repeat (first | refine wZ ?_ | intro b)
    rw [decide_eq_false (by omega : ¬ (0 : Int) < ((0 : Nat) : Int))]
    have hoe : o = oSum (xs.map (·.y)) k := by rw [← hj2]; rfl
    rw [← hoe] at hr ho hres ⊢
    obtain ⟨xs1, xs2, rfl, hxs1⟩ := split_at hx
    have hpre := pre_len hxs1
    have hxo := hok x (by simp)
    have hset : (xs1 ++ x :: xs2).map (·.y) = xs1.map (·.y) ++ x.y :: xs2.map (·.y) := by simp
    rw [hset, set_split (by simpa using hxs1), lv_split]
    have hkeep : ∀ x' : LV, ∀ Z', Ent [Z'] [Z] → LVok Z' x' → ∀ y ∈ xs1 ++ x' :: xs2, LVok Z' y := fun x' Z' e h y hy => by
      rcases List.mem_append.1 hy with h1 | h1
      · exact (hok y (by simp [h1])).ent e
      · rcases List.mem_cons.1 h1 with rfl | h1
        · exact h
        · exact (hok y (by simp [h1])).ent e
    generalize hpr : xs1.flatMap lvCells = pre at hpre ⊢
    generalize hpo : xs2.flatMap lvCells ++ rest = post
    obtain ⟨⟨kd, off, bytes, wrote, shadow, levels⟩, va, vc, wa, wc, la, lc⟩ := x
    obtain ⟨hb1, hb2, hb3, hb4, hb5, hb6, hb7, hb8, hb9⟩ := hxo
    dsimp only at hb1 hb2 hb3 hb4 hb5 hb6 hb7 hb8 hb9 hr ⊢
    have hpl : p.length ≤ 1000000 := by
      have := hr.1
      dsimp only at this
      rw [List.length_append] at this
      omega
    repeat (first | refine wZ ?_ | intro b)
    refine l_plain rfl ?_
    apply s_val rfl rfl
    · exact RunS.v (r_index (i := 0) rfl rfl rfl h0)
    repeat (first | refine wZ ?_ | intro b)
    refine l_plain rfl ?_
    apply s_val (v := .slice va bytes.length vc) rfl rfl
    · exact r_load rfl rfl (rd_blk 1 rfl (lw_get hpre 2 (by decide)))
    repeat (first | refine wZ ?_ | intro b)
    refine l_plain rfl (s_call rfl rfl (cut_c bytes va bytes.length vc o hb1 hb2 (by omega) (by omega)) [2] rfl ?_ (fun _ _ h => h.elim))
    rintro _ _ ⟨a1, c1, rfl, rfl⟩
    repeat (first | refine wY ?_ | intro b)
    generalize hxn : (xs1 ++ (⟨⟨kd, off, bytes, wrote, shadow, levels⟩, va, vc, wa, wc, la, lc⟩ : LV) :: xs2).length = xn at h0
    refine h_any [blk sb (cl [.slice (some ⟨lb, 0, none⟩) xn lcap, p1, p2, p3, p4] 75)] 10 rfl ?_
    have hE : ∀ (A B : HP) (R : List HP), Ent (A :: B :: blk sb (cl [.slice (some ⟨lb, 0, none⟩) xn lcap, p1, p2, p3, p4] 75) :: R) [blk sb (cl [.slice (some ⟨lb, 0, none⟩) xn lcap, p1, p2, p3, p4] 75)] := fun A B R => (arr_ent 0 [2] _).trans (Ent.left [_] _)
    have hE0 := hE Z (slP (.slice a1 o c1) 123 1 (i16s (cutF bytes o))) (blk lb (cl (pre ++ ([.string kd.s, .int .i64 (off : Nat), .slice va bytes.length vc, .slice wa wrote.length wc, .int .i64 (shadow : Nat), .slice la levels.length lc] ++ post)) 80) :: F)
    have hE1 := fun v => hE v Z (blk lb (cl (pre ++ ([.string kd.s, .int .i64 (off : Nat), .slice va bytes.length vc, .slice wa wrote.length wc, .int .i64 (shadow : Nat), .slice la levels.length lc] ++ post)) 80) :: F)
    have hE := hE0
    refine h_take (by assumption) 0 rfl (by kernel_rfl) (by kernel_rfl) (by kernel_rfl) rfl rfl rfl pQ rV ?_
    refine h_take (by assumption) 1 rfl (by kernel_rfl) (by kernel_rfl) (by kernel_rfl) rfl rfl rfl pQ rV ?_
    refine h_take (by assumption) 2 rfl (by kernel_rfl) (by kernel_rfl) (by kernel_rfl) rfl rfl rfl pQ rV ?_
    refine h_take (by assumption) 3 rfl (by kernel_rfl) (by kernel_rfl) (by kernel_rfl) rfl rfl rfl pQ rV ?_
    refine h_take (by assumption) 4 rfl (by kernel_rfl) (by kernel_rfl) (by kernel_rfl) rfl rfl rfl pQ rV ?_
    refine h_take (by assumption) 5 rfl (by kernel_rfl) (by kernel_rfl) (by kernel_rfl) rfl rfl rfl pQ rV ?_
    refine h_one 6 (by kernel_rfl) rfl rfl ?_
    refine s_append (i := 1) rfl rfl rfl (RE hp 0 rfl) rfl rfl (by rw [i16s_length, cutF_length, Nat.mul_one]) (i16s_one _) (by omega) (by simp only [maxLen]; omega) rfl ?_
    intro a2 c2
    rw [← i16s_append]
    have hE := hE1 (slP (.slice a2 (o + p.length) c2) 123 1 (i16s (cutF bytes o ++ p)))
    refine h_then hE ?_
    refine h_take (v := .pointer (some ⟨lb, 0 + 0 * 6, none⟩)) (hE1 _) 7 rfl (by kernel_rfl) (by kernel_rfl) (by kernel_rfl) rfl rfl rfl pQ (RunS.v (r_index (i := 0) rfl rfl rfl h0)) ?_
    refine h_take (by assumption) 8 rfl (by kernel_rfl) (by kernel_rfl) (by kernel_rfl) rfl rfl rfl pQ rV ?_
    refine h_one 9 (by kernel_rfl) rfl rfl ?_
    refine s_store (i := 3) rfl rfl rfl rfl rfl rfl (lw_lt hpre 2 (by decide)) ?_
    rw [lw_set hpre 2 (by decide)]
    simp only [List.set_cons_succ, List.set_cons_zero]
    refine h_then ((arr_ent 0 [3] _).trans (Ent.left [_] _)) ?_
    refine h_done (by kernel_rfl) ?_
    refine G.ent (Ent.trans (arr_ent 0 [1] _) (Ent.refl _)) ?_
    refine src_sl1 fun hs1 hc1 => ?_
    have hcl : (cutF bytes o ++ p).length = o + p.length := by rw [List.length_append, cutF_length]
    generalize hq : cutF bytes o ++ p = q at hcl hr hs1 ⊢
    refine e_nor0 _ rfl ⟨xs1 ++ ⟨⟨kd, off, q, wrote, shadow, levels⟩, a2, c2, wa, wc, la, lc⟩ :: xs2, sep [slP (.slice a2 (o + p.length) c2) 123 1 (i16s q), Z], by simp, ⟨by rw [← hxn]; simp, by simp [LV.lac]⟩, hkeep _ _ sep2_r ⟨?_, ?_, hb3.ent sep2_r, hb4, hr.1, hb6, hb7, hb8, hb9⟩, sep2_r, rfl⟩ ?_
    · dsimp only
      rw [hcl]
      exact hs1.ent sep2_l
    · dsimp only
      rw [hcl]
      exact hc1
    rw [lv_split, hpr, hpo]
    dsimp only
    rw [hcl]
    exact Ent.trans (arr_ent 0 [3, 1, 0, 0] _) (Ent.append [_, _] (sep_shut [_, _] F))
end
end Go.Proofs.YtfebpbflpdppiaaGreatDoor
namespace Go.Proofs.YtfebpbflpdppiaaGreatDoor
open Go Go.Sl
set_option maxRecDepth 100000
/-- a level, and where its slices lie -/
structure LE where
  p : List Int
  q : List Bool
  pa : Option Addr
  pc : Nat
  qa : Option Addr
  qc : Nat
def LE.lv (e : LE) : List Int × List Bool := (e.p, e.q)
def leCells (e : LE) : List Value := [.slice e.pa e.p.length e.pc, .slice e.qa e.q.length e.qc]
structure LEok (Z : HP) (e : LE) : Prop where
  b : Src [Z] 1 (.slice e.pa e.p.length e.pc) e.p.length (i16s e.p)
  bc : e.p.length ≤ e.pc
  w : Src [Z] 1 (.slice e.qa e.q.length e.qc) e.q.length (bls e.q)
  wc : e.q.length ≤ e.qc
  bn : e.p.length ≤ 1000000
  wn : e.q.length ≤ 1000000
theorem LEok.ent {Z Z' : HP} {e : LE} (h : LEok Z e) (t : Ent [Z'] [Z]) : LEok Z' e := ⟨h.b.ent t, h.bc, h.w.ent t, h.wc, h.bn, h.wn⟩
/-- some cells of a block -/
def atM (b : Nat) (vs : List (Nat × Value)) (e : TypeId) : HP := fun h => ∃ l, h b = some (cl l e) ∧ ∀ p ∈ vs, l[p.1]? = some p.2
theorem atM_of {b : Nat} {vs : List (Nat × Value)} {e : TypeId} {l : List Value} {L : List HP} (h : ∀ p ∈ vs, l[p.1]? = some p.2) : Ent (blk b (cl l e) :: L) (atM b vs e :: L) := Ent.imp fun _ hb => ⟨l, hb, h⟩
theorem rd_atM {b o : Nat} {v : Value} {vs : List (Nat × Value)} {e : TypeId} (hv : (o, v) ∈ vs) : Rd [atM b vs e] ⟨b, o, none⟩ v := fun m w h => by
  obtain ⟨a, ha, l, hl, hv'⟩ := h.2.2.2.head
  have := ha _ _ hl
  have e2 : w.heap[b]? = some (cl l e) := this
  simp [World.cell?, e2, cl, hv' _ hv]
section
variable {P : Program} {n : Nat} {ds : List Deferred} {σ : Env} {m : Amb} {L R : List HP} {Q : Exit → Act → World → Prop} {K : Act → World → Prop}
variable {d : Nat} {ty : TypeId} {pos : String} {aft : Array Edge} {gd : Option (Nat × Bool)} {x y : Operand} {t e : TypeId}
theorem s_appendG {size bytes k kk c0 : Nat} {z sv : Value} {a0 : Option Addr} {l news : List Value} [h1 : TyU P t (.slice e)] [h2 : TyI P e size bytes z] (hx : opd σ x = some (.slice a0 k c0)) (hy : opd σ y = some sv)
    (hs : Src R size sv kk news) (hz : z.cells.size = size) (hsz : Nat.blt 0 size = true) (hl : l.length = k * size) (hkk : 0 < kk)
    (hc : news.all (·.oneCell') = true) (hb : (k + kk) * bytes ≤ 140737488355328) (hm : k + kk ≤ maxLen) (hk : Nat.blt d n = true)
    (h : ∀ a c, G n ds ((d, .slice a (k + kk) c) :: σ) m (slP (.slice a (k + kk) c) e size (l ++ news) :: R) K) :
    G n ds σ m (slG (.slice a0 k c0) e size l :: R) (St P ⟨some d, .call ⟨.builtin .append, #[x, y], #[t, t]⟩, ty, pos, aft, gd⟩ K Q) := by
  refine slG_open (fun e1 e2 e3 e4 => ?_) (fun b rest e1 e2 e3 e4 e5 => ?_)
  · subst e1 e2 e3 e4
    refine G.ent (L' := slP (.slice none 0 0) e size [] :: R) slP_nil ?_
    exact s_append (i := 0) hx hy rfl (hs.ent Ent.drop) hz hsz hl hc hb hm hk h
  · subst e1
    rcases e5 with e5 | e5
    · refine G.ent (L' := slP (.slice (some ⟨b, 0, none⟩) k c0) e size l :: R) (slP_shut e2 e3 e4 e5) ?_
      exact s_append (i := 0) hx hy rfl (hs.ent Ent.drop) hz hsz hl hc hb hm hk h
    · subst e5
      refine s_appendF hx hy e2 ?_ (hs.ent Ent.drop) hz hsz hkk hb hm hk fun a c => ?_
      · exact RdN.of fun j v hv => rd_blk 0 rfl (by rw [Nat.zero_add, List.getElem?_append_left (List.getElem?_eq_some_iff.1 hv).1]; exact hv)
      · exact G.ent (Ent.cons Ent.drop) (h a c)
end
/-- the heap of a stack -/
def SH (sb lb lcap : Nat) (rest : List Value) (xs : List LV) (es : List LE) (Z : HP) (la : Option Addr) (lc : Nat) (pa : Option Addr) (pc : Nat) (pts : List Int) (ls vg mk : Bool) : List HP :=
  [blk sb (cl [.slice (some ⟨lb, 0, none⟩) xs.length lcap, .slice pa pts.length pc, .bool ls, .bool vg, .bool mk] 75), blk lb (cl (xs.flatMap lvCells ++ rest) 80), Z, slG (.slice la es.length lc) 139 2 (es.flatMap leCells), slP (.slice pa pts.length pc) 2 1 (ints pts)]
/-- what a stack holds -/
structure SS where
  ys : List Ly
  pts : List Int
  ls : Bool
  vg : Bool
  ms : Bool
def begY (s : SS) (j : Nat) (x : Ly) : Ly := if x.levels = [] then { x with bytes := viewF s.ys j, wrote := [], shadow := 0 } else x
/-- what stands behind a deed -/
def DeR (Z : HP) (sb lb lcap : Nat) (rest : List Value) (n k : Nat) (r : SS × Nat) (v : Value) (B : List HP) : Prop :=
  v = .int .i64 (r.2 : Nat) ∧ ∃ (xs' : List LV) (es' : List LE) (Z' : HP) (la' : Option Addr) (lc' : Nat) (pa' : Option Addr) (pc' : Nat),
    xs'.map (·.y) = r.1.ys ∧ xs'.length = n ∧ (∀ x ∈ xs', LVok Z' x) ∧ (∀ e ∈ es', LEok Z' e) ∧ (∀ x, xs'[k]? = some x → x.y.levels = es'.map LE.lv ∧ x.la = la' ∧ x.lc = lc') ∧ Ent [Z'] [Z] ∧
    B = SH sb lb lcap rest xs' es' Z' la' lc' pa' pc' r.1.pts r.1.ls r.1.vg r.1.ms
theorem leCells_flen (es : List LE) : (es.flatMap leCells).length = es.length * 2 := flat_len leCells 2 (fun _ => rfl) es
attribute [local irreducible] wpList Code.wp Exit.then Exit.inBlock bodyPost RunS RunV G St Ct Sat Ent At Rd GQ QL wpAny wpOp wpQuiet slP Sl.ex sep
section
variable {Z : HP} {sb lb lcap pc lc : Nat} {pa la : Option Addr} {rest : List Value} {xs : List LV} {es : List LE} {s : SS}
set_option maxHeartbeats 16000000 in
theorem begin_c (hxl : xs.length ≤ 1000) (hok : ∀ x ∈ xs, LVok Z x) (hB : StB xs) (heo : ∀ e ∈ es, LEok Z e) (hys : xs.map (·.y) = s.ys) (j : Nat) (x : LV) (hx : xs[j + 1]? = some x) (hkd : x.y.kd = .roll) (hlv : x.y.levels = es.map LE.lv) (hla : x.la = la) (hlc : x.lc = lc) (hel : es.length ≤ 500)
    (hsm : (viewF s.ys j).length ≤ 1000000) :
    Ct Tryz.prog 42 #[.pointer (some ⟨sb, 0, none⟩), .int .i64 (j + 1 : Nat), .string sBegin] (SH sb lb lcap rest xs es Z la lc pa pc s.pts s.ls s.vg s.ms)
      (DeR Z sb lb lcap rest xs.length (j + 1) ({ s with ys := s.ys.set (j + 1) { begY s j x.y with levels := x.y.levels ++ [((begY s j x.y).bytes, (begY s j x.y).wrote)] } }, 0)) nev := by
  have hxo := hok x (List.mem_of_getElem? hx)
  have h0 : j + 1 < xs.length := (List.getElem?_eq_some_iff.1 hx).1
  have hvw := view_c (sb := sb) (lb := lb) (lcap := lcap) (rest := rest) (p1 := .slice pa s.pts.length pc) (p2 := .bool s.ls) (p3 := .bool s.vg) (p4 := .bool s.ms) hxl hok hB j (by omega)
  rw [hys] at hvw
  have hll : x.y.levels.length = es.length := by rw [hlv, List.length_map]
  unfold SH
  refine Ct.of Tryz.func42 rfl Tryz.ntmps42 rfl fun m F => ?_
  repeat (first | refine wZ ?_ | intro b)
  refine l_plain rfl ?_
  apply s_val rfl rfl
  · exact RunS.v (r_index (i := j + 1) rfl rfl rfl h0)
  repeat (first | refine wZ ?_ | intro b)
  rw [decide_eq_false (by omega : ¬ ((j + 1 : Nat) : Int) = 0)]
  repeat (first | refine wZ ?_ | intro b)
  refine l_plain rfl ?_
  apply s_val (v := .string sRb) rfl rfl
  · exact r_load rfl rfl (rd_blk 1 rfl ((lc_get hx 0 (by decide)).trans (by rw [lvCells, hkd]; rfl)))
  repeat (first | refine wZ ?_ | intro b)
  refine l_plain rfl ?_
  apply s_val (v := .slice la es.length lc) rfl rfl
  · exact r_load rfl rfl (rd_blk 1 rfl ((lc_get hx 5 (by decide)).trans (by rw [lvCells, hll, hla, hlc]; rfl)))
  repeat (first | refine wZ ?_ | intro b)
  obtain ⟨xs1, xs2, rfl, hxs1⟩ := split_at hx
  have hpre := pre_len hxs1
  have hset : s.ys = xs1.map (·.y) ++ x.y :: xs2.map (·.y) := by rw [← hys]; simp
  generalize hbY : begY s j x.y = bY
  unfold begY at hbY
  generalize hV : viewF s.ys j = V at hsm hvw hbY
  rw [hset, set_split (by simpa using hxs1), lv_split]
  rw [lv_split] at hvw
  have hkeep : ∀ x' : LV, ∀ Z', Ent [Z'] [Z] → LVok Z' x' → ∀ y ∈ xs1 ++ x' :: xs2, LVok Z' y := fun x' Z' e h y hy => by
    rcases List.mem_append.1 hy with h1 | h1
    · exact (hok y (by simp [h1])).ent e
    · rcases List.mem_cons.1 h1 with rfl | h1
      · exact h
      · exact (hok y (by simp [h1])).ent e
  generalize hpr : xs1.flatMap lvCells = pre at hpre hvw ⊢
  generalize hpo : xs2.flatMap lvCells ++ rest = post at hvw ⊢
  obtain ⟨⟨kd, off, bytes, wrote, shadow, levels⟩, va, vc, wa, wc, la', lc'⟩ := x
  obtain ⟨hb1, hb2, hb3, hb4, hb5, hb6, hb7, hb8, hb9⟩ := hxo
  dsimp only at hkd hlv hla hlc hll hb1 hb2 hb3 hb4 hb5 hb6 hb7 hb8 hb9 hbY hvw ⊢
  subst hkd hla hlc hlv
  rw [List.length_map] at hvw ⊢
  generalize hxn : (xs1 ++ (⟨⟨.roll, off, bytes, wrote, shadow, es.map LE.lv⟩, va, vc, wa, wc, la', lc'⟩ : LV) :: xs2).length = xn at h0 hvw
  refine c_mid (α := LV × HP) (fun _ => [(0, .pointer (some ⟨sb, 0, none⟩)), (7, .pointer (some ⟨lb, 0 + (j + 1) * 6, none⟩))])
    (fun p => blk lb (cl (pre ++ ([.string KD.roll.s, .int .i64 (off : Nat), .slice p.1.va p.1.y.bytes.length p.1.vc, .slice p.1.wa p.1.y.wrote.length p.1.wc, .int .i64 (p.1.y.shadow : Nat), .slice la' es.length lc'] ++ post)) 80) :: blk sb (cl [.slice (some ⟨lb, 0, none⟩) xn lcap, .slice pa s.pts.length pc, .bool s.ls, .bool s.vg, .bool s.ms] 75) :: p.2 :: slG (.slice la' es.length lc') 139 2 (es.flatMap leCells) :: slP (.slice pa s.pts.length pc) 2 1 (ints s.pts) :: F)
    (fun p => p.1.y = bY ∧ LVok p.2 p.1 ∧ Ent [p.2] [Z] ∧ p.1.la = la' ∧ p.1.lc = lc') ?_ ?_
  · cases es with
    | cons e es =>
      rw [decide_eq_false (by rw [List.length_cons]; omega : ¬ (((e :: es).length : Nat) : Int) = 0)]
      rw [if_neg (by simp)] at hbY
      repeat (first | refine wZ ?_ | intro b)
      subst hbY
      exact at_intro (⟨⟨.roll, off, bytes, wrote, shadow, (e :: es).map LE.lv⟩, va, vc, wa, wc, la', lc'⟩, Z) ⟨rfl, ⟨hb1, hb2, hb3, hb4, hb5, hb6, hb7, hb8, hb9⟩, Ent.refl _, rfl, rfl⟩ ⟨rfl, rfl, trivial⟩ (arr_ent 0 [1] _)
    | nil =>
      rw [decide_eq_true (by rfl : ((([] : List LE).length : Nat) : Int) = 0)]
      rw [if_pos (by simp)] at hbY
      subst hbY
      repeat (first | refine wZ ?_ | intro b)
      revert b; intro tb
      refine G.ent (L' := slP (.slice (some ⟨tb, 0, none⟩) 0 0) 123 1 [] :: _) (slP_blk (k := 0) rfl (Nat.zero_le _)) ?_
      refine l_plain rfl (s_call rfl rfl hvw [1, 1] rfl ?_ (fun _ _ h => h.elim))
      rintro _ _ ⟨⟨a1, c1, rfl, hv1, hv2⟩, rfl⟩
      repeat (first | refine wZ ?_ | intro b)
      refine l_plain rfl (s_append (i := 2) rfl rfl rfl (RE hv2 3 rfl) rfl rfl rfl (i16s_one _) (by omega) (by simp only [maxLen]; omega) rfl ?_)
      intro a2 c2
      rw [List.nil_append, Nat.zero_add]
      repeat (first | refine wZ ?_ | intro b)
      refine l_plain rfl ?_
      refine s_store (i := 2) rfl rfl rfl rfl rfl rfl (lw_lt hpre 2 (by decide)) ?_
      rw [lw_set hpre 2 (by decide)]
      simp only [List.set_cons_succ, List.set_cons_zero]
      repeat (first | refine wZ ?_ | intro b)
      refine l_plain rfl ?_
      refine s_store (i := 0) rfl rfl rfl rfl rfl rfl (lw_lt hpre 3 (by decide)) ?_
      rw [lw_set hpre 3 (by decide)]
      simp only [List.set_cons_succ, List.set_cons_zero]
      repeat (first | refine wZ ?_ | intro b)
      refine l_plain rfl ?_
      refine s_store (i := 0) rfl rfl rfl rfl rfl rfl (lw_lt hpre 4 (by decide)) ?_
      rw [lw_set hpre 4 (by decide)]
      simp only [List.set_cons_succ, List.set_cons_zero]
      repeat (first | refine wZ ?_ | intro b)
      refine G.ent (Ent.trans (arr_ent 0 [1] _) (Ent.refl _)) ?_
      refine src_sl1 fun hs1 hc1 => ?_
      refine at_intro (⟨⟨.roll, off, V, [], 0, []⟩, a2, c2, none, 0, la', lc'⟩, sep [slP (.slice a2 V.length c2) 123 1 (i16s V), Z]) ⟨rfl, ⟨hs1.ent sep2_l, hc1, Src.nil, Nat.le_refl _, hsm, Nat.zero_le _, hb7, Nat.zero_le _, Nat.zero_le _⟩, sep2_r, rfl, rfl⟩ ⟨rfl, rfl, trivial⟩ ?_
      exact (arr_ent 0 [1, 1] _).trans (Ent.append [_, _] (sep_shut [_, _] _))
  · rintro ⟨x1, Z1⟩ ⟨h1, h2, h3, h4, h5⟩
    dsimp only at h1 h2 h3 h4 h5 ⊢
    repeat (first | refine wY ?_ | intro b)
    obtain ⟨g1, g2, g3, g4, g5, g6, g7, g8, g9⟩ := h2
    subst h4 h5
    generalize hLB : blk lb (cl (pre ++ ([.string KD.roll.s, .int .i64 (off : Nat), .slice x1.va x1.y.bytes.length x1.vc, .slice x1.wa x1.y.wrote.length x1.wc, .int .i64 (x1.y.shadow : Nat), .slice x1.la es.length x1.lc] ++ post)) 80) = LB
    have hEc : ∀ (c5 : Value) (R : List HP), Ent (blk lb (cl (pre ++ ([.string KD.roll.s, .int .i64 (off : Nat), .slice x1.va x1.y.bytes.length x1.vc, .slice x1.wa x1.y.wrote.length x1.wc, .int .i64 (x1.y.shadow : Nat), c5] ++ post)) 80) :: R) [atM lb [(0 + (j + 1) * 6 + 2, .slice x1.va x1.y.bytes.length x1.vc), (0 + (j + 1) * 6 + 3, .slice x1.wa x1.y.wrote.length x1.wc)] 80] := fun c5 R => by
      refine (atM_of fun p hp => ?_).trans (Ent.left [_] _)
      simp only [List.mem_cons, List.not_mem_nil, or_false] at hp
      rcases hp with rfl | rfl
      · exact lw_get hpre 2 (by decide)
      · exact lw_get hpre 3 (by decide)
    have hbk : bY.kd = .roll ∧ bY.off = off := by rw [← hbY]; split <;> exact ⟨rfl, rfl⟩
    have hE0 : ∀ R : List HP, Ent (LB :: R) [atM lb [(0 + (j + 1) * 6 + 2, .slice x1.va x1.y.bytes.length x1.vc), (0 + (j + 1) * 6 + 3, .slice x1.wa x1.y.wrote.length x1.wc)] 80] := fun R => by
      rw [← hLB]
      exact hEc _ R
    have hE1 : ∀ (A : HP) (R : List HP), Ent (A :: LB :: R) [atM lb [(0 + (j + 1) * 6 + 2, .slice x1.va x1.y.bytes.length x1.vc), (0 + (j + 1) * 6 + 3, .slice x1.wa x1.y.wrote.length x1.wc)] 80] := fun A R => Ent.drop.trans (hE0 R)
    have hE2 : ∀ (A B : HP) (R : List HP), Ent (A :: B :: LB :: R) [atM lb [(0 + (j + 1) * 6 + 2, .slice x1.va x1.y.bytes.length x1.vc), (0 + (j + 1) * 6 + 3, .slice x1.wa x1.y.wrote.length x1.wc)] 80] := fun A B R => Ent.drop.trans (hE1 B R)
    have hld : ∀ i L R, takeAt i L = some (LB, R) → Rd L ⟨lb, 0 + (j + 1) * 6 + 5, none⟩ (.slice x1.la es.length x1.lc) := fun i L R h => by
      rw [← hLB] at h
      exact rd_blk i h (lw_get hpre 5 (by decide))
    refine h_any [atM lb [(0 + (j + 1) * 6 + 2, .slice x1.va x1.y.bytes.length x1.vc), (0 + (j + 1) * 6 + 3, .slice x1.wa x1.y.wrote.length x1.wc)] 80] 21 rfl ?_
    have hE := hE0 (blk sb (cl [.slice (some ⟨lb, 0, none⟩) xn lcap, .slice pa s.pts.length pc, .bool s.ls, .bool s.vg, .bool s.ms] 75) :: Z1 :: slG (.slice x1.la es.length x1.lc) 139 2 (es.flatMap leCells) :: slP (.slice pa s.pts.length pc) 2 1 (ints s.pts) :: F)
    refine h_take (by assumption) 0 rfl (by kernel_rfl) (by kernel_rfl) (by kernel_rfl) rfl rfl rfl pQ rV ?_
    refine h_take (by assumption) 1 rfl (by kernel_rfl) (by kernel_rfl) (by kernel_rfl) rfl rfl rfl pQ rV ?_
    refine h_take (by assumption) 2 rfl (by kernel_rfl) (by kernel_rfl) (by kernel_rfl) rfl rfl rfl pQ rV ?_
    refine h_take (by assumption) 3 rfl (by kernel_rfl) (by kernel_rfl) (by kernel_rfl) rfl rfl rfl pQ rV ?_
    refine h_take (by assumption) 6 rfl (by kernel_rfl) (by kernel_rfl) (by kernel_rfl) rfl rfl rfl pQ rV ?_
    refine h_take (by assumption) 7 rfl (by kernel_rfl) (by kernel_rfl) (by kernel_rfl) rfl rfl rfl pQ rV ?_
    refine h_take (by assumption) 8 rfl (by kernel_rfl) (by kernel_rfl) (by kernel_rfl) rfl rfl rfl pQ rV ?_
    refine h_take (v := .slice x1.va x1.y.bytes.length x1.vc) hE 9 rfl (by kernel_rfl) (by kernel_rfl) (by kernel_rfl) rfl rfl rfl pQ (r_load rfl rfl (rd_atM (by simp))) ?_
    refine h_take (by assumption) 11 rfl (by kernel_rfl) (by kernel_rfl) (by kernel_rfl) rfl rfl rfl pQ rV ?_
    refine h_take (by assumption) 12 rfl (by kernel_rfl) (by kernel_rfl) (by kernel_rfl) rfl rfl rfl pQ rV ?_
    refine h_take (by assumption) 13 rfl (by kernel_rfl) (by kernel_rfl) (by kernel_rfl) rfl rfl rfl pQ rV ?_
    refine h_take (v := .slice x1.wa x1.y.wrote.length x1.wc) hE 14 rfl (by kernel_rfl) (by kernel_rfl) (by kernel_rfl) rfl rfl rfl pQ (r_load rfl rfl (rd_atM (by simp))) ?_
    repeat' first
      | refine h_two 4 5 (by decide +kernel) rfl rfl rfl rfl ?_ ?_
      | refine h_two 4 10 (by decide +kernel) rfl rfl rfl rfl ?_ ?_
      | refine h_two 4 16 (by decide +kernel) rfl rfl rfl rfl ?_ ?_
      | refine h_one 4 (by decide +kernel) rfl rfl ?_
      | refine h_one 5 (by decide +kernel) rfl rfl ?_
      | refine h_one 10 (by decide +kernel) rfl rfl ?_
      | refine h_one 16 (by decide +kernel) rfl rfl ?_
      | refine h_take (v := .agg #[.slice a1 (0 + x1.y.bytes.length) c1, .slice x1.wa x1.y.wrote.length x1.wc]) (by first | exact hE1 _ _ | exact hE0 _ | exact hE2 _ _ _) 15 rfl (by kernel_rfl) (by kernel_rfl) (by decide +kernel) rfl rfl rfl pQ (RunS.v (r_build (cells := #[.slice a1 (0 + x1.y.bytes.length) c1, .slice x1.wa x1.y.wrote.length x1.wc]) rfl (by kernel_rfl))) ?_
      | (refine s_build (size := 2) (vs := [.agg #[.slice a1 (0 + x1.y.bytes.length) c1, .slice x1.wa x1.y.wrote.length x1.wc]]) (l := [.slice a1 (0 + x1.y.bytes.length) c1, .slice x1.wa x1.y.wrote.length x1.wc]) rfl rfl rfl rfl rfl (by intro v hv; simp at hv; subst hv; rfl) (by simp [Value.cells]) rfl rfl fun tb3 => ?_; refine h_then (hE2 _ _ _) ?_)
      | (refine s_build1 rfl rfl rfl rfl rfl rfl rfl fun tb2 => ?_; refine G.ent (L' := slP (.slice (some ⟨tb2, 0, none⟩) 0 0) 123 1 [] :: _) (slP_blk (k := 0) rfl (Nat.zero_le _)) ?_; refine h_then (hE1 _ _) ?_)
      | (apply s_val (v := .slice x1.la es.length x1.lc) rfl rfl; (first | exact r_load rfl rfl (hld 0 _ _ rfl) | exact r_load rfl rfl (hld 1 _ _ rfl) | exact r_load rfl rfl (hld 2 _ _ rfl)); (first | refine h_then (hE0 _) ?_ | refine h_then (hE1 _ _) ?_ | refine h_then (hE2 _ _ _) ?_))
      | (refine s_append (i := 0) rfl rfl rfl (RE g1 3 rfl) rfl rfl rfl (i16s_one _) (by omega) (by simp only [maxLen]; omega) rfl ?_; intro a1 c1; refine h_then (hE1 _ _) ?_)
      | fail
    all_goals
      refine h_one 17 (by kernel_rfl) rfl rfl ?_
      refine G.ent (Ent.trans (arr_ent 0 [5] _) (Ent.refl _)) ?_
      refine s_appendG rfl rfl (Src.some _ _ _ _ _ rfl (rdn_all 0 rfl)) rfl rfl (leCells_flen es) (by decide) rfl (by omega) (by simp only [maxLen]; omega) rfl fun a3 c3 => ?_
      refine h_then (Ent.drop.trans (hE2 _ _ _)) ?_
      refine h_take (Ent.drop.trans (hE2 _ _ _)) 18 rfl (by kernel_rfl) (by kernel_rfl) (by kernel_rfl) rfl rfl rfl pQ rV ?_
      refine h_take (Ent.drop.trans (hE2 _ _ _)) 19 rfl (by kernel_rfl) (by kernel_rfl) (by kernel_rfl) rfl rfl rfl pQ rV ?_
      refine h_one 20 (by kernel_rfl) rfl rfl ?_
      subst hLB
      refine s_store (i := 3) rfl rfl rfl rfl rfl rfl (lw_lt hpre 5 (by decide)) ?_
      rw [lw_set hpre 5 (by decide)]
      simp only [List.set_cons_succ, List.set_cons_zero]
      refine h_then (hEc _ _) ?_
      refine h_done (by kernel_rfl) ?_
      refine q_then_n ?_
      repeat (first | refine wZ ?_ | intro b)
      refine G.ent (Ent.trans (arr_ent 0 [3] _) (Ent.refl _)) ?_
      have e0 : 0 + x1.y.bytes.length = x1.y.bytes.length := Nat.zero_add _
      rw [List.nil_append, e0]
      refine src_sl1 fun hs1 hc1 => ?_
      refine e_ret1 _ rfl rfl ⟨rfl, xs1 ++ ⟨{ bY with levels := es.map LE.lv ++ [(bY.bytes, bY.wrote)] }, x1.va, x1.vc, x1.wa, x1.wc, a3, c3⟩ :: xs2, es ++ [⟨x1.y.bytes, x1.y.wrote, a1, c1, x1.wa, x1.wc⟩], sep [slP (.slice a1 x1.y.bytes.length c1) 123 1 (i16s x1.y.bytes), Z1], a3, c3, pa, pc, by simp, by rw [← hxn]; simp, ?_, ?_, ?_, sep2_r.trans h3, rfl⟩ ?_
      · subst h1
        refine hkeep _ _ (sep2_r.trans h3) ⟨g1.ent sep2_r, g2, g3.ent sep2_r, g4, g5, g6, g7, g8, ?_⟩
        dsimp only
        rw [List.length_append, List.length_map, List.length_singleton]
        omega
      · intro e he
        rcases List.mem_append.1 he with he | he
        · exact (heo e he).ent (sep2_r.trans h3)
        · simp only [List.mem_singleton] at he
          subst he
          exact ⟨hs1.ent sep2_l, hc1, g3.ent sep2_r, g4, g5, g6⟩
      · intro x' hx'
        rw [List.getElem?_append_right (by omega), hxs1, Nat.sub_self] at hx'
        simp only [List.getElem?_cons_zero, Option.some.injEq] at hx'
        subst hx'
        subst h1
        exact ⟨by simp [LE.lv], rfl, rfl⟩
      · unfold SH
        subst h1
        have hfl : (es ++ [(⟨x1.y.bytes, x1.y.wrote, a1, c1, x1.wa, x1.wc⟩ : LE)]).flatMap leCells = es.flatMap leCells ++ [.slice a1 x1.y.bytes.length c1, .slice x1.wa x1.y.wrote.length x1.wc] := by rw [List.flatMap_append]; rfl
        have hx2 : (xs1 ++ (⟨{ x1.y with levels := es.map LE.lv ++ [(x1.y.bytes, x1.y.wrote)] }, x1.va, x1.vc, x1.wa, x1.wc, a3, c3⟩ : LV) :: xs2).length = xn := by rw [← hxn]; simp
        have hl1 : (es.map LE.lv ++ [(x1.y.bytes, x1.y.wrote)]).length = es.length + 1 := by simp
        have hl2 : (es ++ [(⟨x1.y.bytes, x1.y.wrote, a1, c1, x1.wa, x1.wc⟩ : LE)]).length = es.length + 1 := by simp
        rw [lv_split, hpr, hpo, hfl, hx2, hl2]
        dsimp only
        rw [hl1, hbk.1, hbk.2]
        exact (arr_ent 1 [4, 1, 0, 2, 0, 1] _).trans (Ent.append [_, _] ((sep_shut [_, _] _).trans (Ent.append [_] slG_P)))
end
end Go.Proofs.YtfebpbflpdppiaaGreatDoor
