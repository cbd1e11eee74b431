/- The reference's stacks: deeds without a transaction; rollbacks · The reference's stacks: the end of a transaction · The reference's stacks: deeds · The reference's steps. No program · The reference's steps: what they begin with. -/
import Derived.Test.YtfebpbflpdppiaaGreatDoorL16
namespace Go.Proofs.YtfebpbflpdppiaaGreatDoor
open Go Go.Sl
set_option maxRecDepth 100000
section
variable {P : Program} {σ : Env} {ty : TypeId} {pos : String} {aft : Array Edge} {gd : Option (Nat × Bool)} {x y z : Operand} {t e : TypeId}
/-- s[:hi:mx] of a slice -/
theorem r_sl3 {od : Option Tmp} {size bytes len cap : Nat} {zv : Value} {tb o : Nat} {k k' : IntKind} {hi mx : Nat} [h1 : TyU P t (.slice e)] [h2 : TyI P e size bytes zv] (hx : opd σ x = some (.slice (some ⟨tb, o, none⟩) len cap)) (hy : opd σ y = some (.int k (hi : Nat))) (hz : opd σ z = some (.int k' (mx : Nat))) (hhi : hi ≤ mx) (hmx : mx ≤ cap) :
    RunS P ⟨od, .slice t x none (some y) (some z), ty, pos, aft, gd⟩ σ (.slice (some ⟨tb, o, none⟩) hi mx) := fun c w g => by
  simp only [execOp, Option.map_some, Option.map_none, opd_eval g hx, opd_eval g hy, opd_eval g hz]
  simp [Instr.sliceAt, run_und h1, Instr.slice, Instr.sliceBounds, run_bound (P := P) w rfl (show 0 ≤ (hi : Int) ∧ (hi : Int) ≤ mx from ⟨by omega, by omega⟩), run_bound (P := P) w rfl (show 0 ≤ (mx : Int) ∧ (mx : Int) ≤ cap from ⟨by omega, by omega⟩), Go.Sl.run_sizeOf h2, Addr.add_lit]
end
theorem sum_last {α : Type} {l : List α} (h : l ≠ []) : ∃ l0 e, l = l0 ++ [e] := ⟨l.dropLast, l.getLast h, (List.dropLast_concat_getLast h).symm⟩
def lastL (x : Ly) : List Int × List Bool := x.levels.getLast?.getD ([], [])
/-- behind a rollback -/
def rollF (s : SS) (j : Nat) (x : Ly) : SS := { s with ys := s.ys.set (j + 1) { x with bytes := (lastL x).1, wrote := (lastL x).2, levels := x.levels.dropLast } }
/-- behind an end -/
def endY (s : SS) (j : Nat) (x : Ly) : List Ly := s.ys.set (j + 1) { x with levels := x.levels.dropLast }
def endF (s : SS) (j : Nat) (x : Ly) : SS :=
  if 1 < x.levels.length then { s with ys := endY s j x }
  else if benF (endY s j x) (j + 1) = true then { s with ys := endY s j x, ls := true }
  else if belowF x.wrote x.bytes.length = false then { s with ys := becF (endY s j x) j x.bytes, ls := decide (x.bytes.length ≠ (viewF (endY s j x) j).length), vg := true }
  else { s with ys := becF (endY s j x) j x.bytes, pts := if j + 1 = topF (endY s j x) then s.pts ++ [(x.bytes.length : Int)] else s.pts }
theorem le_get (es : List LE) (e : LE) (rest : List Value) (jj : Nat) (v : Value) (h : (leCells e)[jj]? = some v) : ((es ++ [e]).flatMap leCells ++ rest)[0 + es.length * 2 + jj]? = some v := by
  have h2 : jj < 2 := (List.getElem?_eq_some_iff.1 h).1
  have hl := leCells_flen es
  rw [List.flatMap_append, List.append_assoc, List.getElem?_append_right (by omega), hl, show 0 + es.length * 2 + jj - es.length * 2 = jj from by omega, List.flatMap_singleton, List.getElem?_append_left (show jj < (leCells e).length from h2)]
  exact h
attribute [local irreducible] wpList Code.wp Exit.then Exit.inBlock bodyPost RunS RunV G St Ct Sat Ent At Rd GQ QL wpAny wpOp wpQuiet slP Sl.ex sep
section
variable {Z : HP} {sb lb lcap pc lc : Nat} {pa la : Option Addr} {rest : List Value} {xs : List LV} {es : List LE} {s : SS}
set_option maxHeartbeats 4000000 in
/-- where there is no transaction -/
theorem perm_c (_hxl : xs.length ≤ 1000) (hok : ∀ x ∈ xs, LVok Z x) (hys : xs.map (·.y) = s.ys) (j : Nat) (x : LV) (hx : xs[j + 1]? = some x) (hkd : x.y.kd = .roll) (hlv : x.y.levels = []) (hla : x.la = la) (hlc : x.lc = lc) (st : ByteArray) (hst : (st.data.toList == sBegin.data.toList) = false) :
    Ct Tryz.prog 42 #[.pointer (some ⟨sb, 0, none⟩), .int .i64 (j + 1 : Nat), .string st] (SH sb lb lcap rest xs [] Z la lc pa pc s.pts s.ls s.vg s.ms)
      (DeR Z sb lb lcap rest xs.length (j + 1) (s, 3)) nev := by
  have h0 : j + 1 < xs.length := (List.getElem?_eq_some_iff.1 hx).1
  have hll : x.y.levels.length = 0 := by rw [hlv]; rfl
  refine Ct.of Tryz.func42 rfl Tryz.ntmps42 rfl fun m F => ?_
  unfold SH
  repeat (first | refine wZ ?_ | intro b)
  refine l_plain rfl ?_
  apply s_val rfl rfl
  · exact RunS.v (r_index (i := j + 1) rfl rfl rfl h0)
  repeat (first | refine wZ ?_ | intro b)
  rw [decide_eq_false (by omega : ¬ ((j + 1 : Nat) : Int) = 0)]
  repeat (first | refine wZ ?_ | intro b)
  refine l_plain rfl ?_
  apply s_val (v := .string sRb) rfl rfl
  · exact r_load rfl rfl (rd_blk 1 rfl ((lc_get hx 0 (by decide)).trans (by rw [lvCells, hkd]; rfl)))
  repeat (first | refine wZ ?_ | intro b)
  refine l_plain rfl ?_
  apply s_val (v := .slice la 0 lc) rfl rfl
  · exact r_load rfl rfl (rd_blk 1 rfl ((lc_get hx 5 (by decide)).trans (by rw [lvCells, hll, hla, hlc]; rfl)))
  repeat (first | refine wZ ?_ | intro b)
  have hst2 : (st.data.toList == [98, 101, 103, 105, 110]) = false := hst
  rw [hst2]
  repeat (first | refine wZ ?_ | intro b)
  rw [decide_eq_true (by rfl : ((0 : Nat) : Int) = 0)]
  repeat (first | refine wZ ?_ | intro b)
  exact e_ret1 _ rfl rfl ⟨rfl, xs, [], Z, la, lc, pa, pc, hys, rfl, hok, fun _ h => by simp at h, fun x' hx' => by
    rw [hx] at hx'
    cases hx'
    exact ⟨hlv, hla, hlc⟩, Ent.refl _, rfl⟩ (Ent.refl _)
set_option maxHeartbeats 16000000 in
/-- the rollback of a transaction -/
theorem rollback_c (hxl : xs.length ≤ 1000) (hok : ∀ x ∈ xs, LVok Z x) (hys : xs.map (·.y) = s.ys) (e : LE) (heo : ∀ e' ∈ es ++ [e], LEok Z e') (j : Nat) (x : LV) (hx : xs[j + 1]? = some x) (hkd : x.y.kd = .roll) (hlv : x.y.levels = (es ++ [e]).map LE.lv) (hla : x.la = la) (hlc : x.lc = lc) (hel : es.length ≤ 500) :
    Ct Tryz.prog 42 #[.pointer (some ⟨sb, 0, none⟩), .int .i64 (j + 1 : Nat), .string sRoll] (SH sb lb lcap rest xs (es ++ [e]) Z la lc pa pc s.pts s.ls s.vg s.ms)
      (DeR Z sb lb lcap rest xs.length (j + 1) (rollF s j x.y, 0)) nev := by
  have hxo := hok x (List.mem_of_getElem? hx)
  have heo' := heo e (by simp)
  have h0 : j + 1 < xs.length := (List.getElem?_eq_some_iff.1 hx).1
  have hrF : rollF s j x.y = { s with ys := s.ys.set (j + 1) { x.y with bytes := e.p, wrote := e.q, levels := es.map LE.lv } } := by
    unfold rollF lastL
    rw [hlv]
    simp [LE.lv]
  have hll : x.y.levels.length = es.length + 1 := by rw [hlv]; simp
  have hel2 : (es ++ [e]).length = es.length + 1 := by simp
  rw [hrF]
  obtain ⟨xs1, xs2, rfl, hxs1⟩ := split_at hx
  have hpre := pre_len hxs1
  have hset : s.ys = xs1.map (·.y) ++ x.y :: xs2.map (·.y) := by rw [← hys]; simp
  rw [hset, set_split (by simpa using hxs1)]
  unfold SH
  rw [lv_split, hel2]
  have hkeep : ∀ x' : LV, LVok Z x' → ∀ y ∈ xs1 ++ x' :: xs2, LVok Z y := fun x' h y hy => by
    rcases List.mem_append.1 hy with h1 | h1
    · exact hok y (by simp [h1])
    · rcases List.mem_cons.1 h1 with rfl | h1
      · exact h
      · exact hok y (by simp [h1])
  generalize hpr : xs1.flatMap lvCells = pre at hpre ⊢
  generalize hpo : xs2.flatMap lvCells ++ rest = post
  obtain ⟨⟨kd, off, bytes, wrote, shadow, levels⟩, va, vc, wa, wc, la', lc'⟩ := x
  obtain ⟨hb1, hb2, hb3, hb4, hb5, hb6, hb7, hb8, hb9⟩ := hxo
  dsimp only at hkd hlv hla hlc hll hb1 hb2 hb3 hb4 hb5 hb6 hb7 hb8 hb9 ⊢
  subst hkd hla hlc
  rw [hll]
  generalize hxn : (xs1 ++ (⟨⟨.roll, off, bytes, wrote, shadow, levels⟩, va, vc, wa, wc, la', lc'⟩ : LV) :: xs2).length = xn at h0
  refine Ct.of Tryz.func42 rfl Tryz.ntmps42 rfl fun m F => ?_
  repeat (first | refine wZ ?_ | intro b)
  refine l_plain rfl ?_
  apply s_val rfl rfl
  · exact RunS.v (r_index (i := j + 1) rfl rfl rfl h0)
  repeat (first | refine wZ ?_ | intro b)
  rw [decide_eq_false (by omega : ¬ ((j + 1 : Nat) : Int) = 0)]
  repeat (first | refine wZ ?_ | intro b)
  refine l_plain rfl ?_
  apply s_val (v := .string sRb) rfl rfl
  · exact r_load rfl rfl (rd_blk 1 rfl (lw_get hpre 0 (by decide)))
  repeat (first | refine wZ ?_ | intro b)
  refine l_plain rfl ?_
  apply s_val (v := .slice la' (es.length + 1) lc') rfl rfl
  · exact r_load rfl rfl (rd_blk 1 rfl (lw_get hpre 5 (by decide)))
  repeat (first | refine wZ ?_ | intro b)
  refine G.ent (Ent.trans (arr_ent 0 [3] _) (Ent.refl _)) ?_
  refine slG_open (fun _ h => absurd h (by omega)) (fun tb rest2 q1 q2 q3 q4 q5 => ?_)
  subst q1
  refine l_plain rfl ?_
  apply s_val (v := .slice (some ⟨tb, 0, none⟩) (es.length + 1) lc') rfl rfl
  · exact r_load rfl rfl (rd_blk 2 rfl (lw_get hpre 5 (by decide)))
  repeat (first | refine wZ ?_ | intro b)
  rw [show es.length + 1 - 1 = es.length from by omega]
  refine l_plain rfl ?_
  apply s_val (v := .pointer (some ⟨tb, 0 + es.length * 2, none⟩)) rfl rfl
  · exact RunS.v (r_index (i := es.length) rfl rfl rfl (by omega))
  refine l_plain rfl ?_
  apply s_val (v := .agg (leCells e).toArray) rfl rfl
  · exact r_loadN (vs := leCells e) rfl rfl rfl (RdN.of fun jj v hv => rd_blk 0 rfl (le_get es e rest2 jj v hv))
  repeat (first | refine wY ?_ | intro b)
  revert b; intro tb9
  refine G.ent (L' := blk tb9 (cl (leCells e) 139) :: _) (Ent.refl _) ?_
  refine l_plain rfl ?_
  apply s_val (v := .slice (some ⟨tb, 0, none⟩) (es.length + 1) lc') rfl rfl
  · exact r_load rfl rfl (rd_blk 3 rfl (lw_get hpre 5 (by decide)))
  repeat (first | refine wY ?_ | intro b)
  rw [show es.length + 1 - 1 = es.length from by omega]
  refine l_plain rfl ?_
  apply s_val (v := .slice (some ⟨tb, 0, none⟩) es.length es.length) rfl rfl
  · exact RunS.v (r_sl3 rfl rfl rfl (by omega) (by omega))
  repeat (first | refine wY ?_ | intro b)
  refine l_plain rfl ?_
  refine s_store (i := 3) rfl rfl rfl rfl rfl rfl (lw_lt hpre 5 (by decide)) ?_
  rw [lw_set hpre 5 (by decide)]
  simp only [List.set_cons_succ, List.set_cons_zero]
  repeat (first | refine wY ?_ | intro b)
  have hE : ∀ (A : HP) (R : List HP), Ent (A :: blk tb9 (cl (leCells e) 139) :: R) [blk tb9 (cl (leCells e) 139)] := fun A R => Ent.drop.trans (Ent.left [_] _)
  refine h_any [blk tb9 (cl (leCells e) 139)] 12 rfl ?_
  repeat' first
    | refine h_take (hE _ _) 0 rfl (by kernel_rfl) (by kernel_rfl) (by decide +kernel) rfl rfl rfl pQ rV ?_
    | refine h_take (hE _ _) 1 rfl (by kernel_rfl) (by kernel_rfl) (by decide +kernel) rfl rfl rfl pQ rV ?_
    | refine h_take (hE _ _) 2 rfl (by kernel_rfl) (by kernel_rfl) (by decide +kernel) rfl rfl rfl pQ rV ?_
    | refine h_take (hE _ _) 4 rfl (by kernel_rfl) (by kernel_rfl) (by decide +kernel) rfl rfl rfl pQ rV ?_
    | refine h_take (hE _ _) 6 rfl (by kernel_rfl) (by kernel_rfl) (by decide +kernel) rfl rfl rfl pQ rV ?_
    | refine h_take (hE _ _) 7 rfl (by kernel_rfl) (by kernel_rfl) (by decide +kernel) rfl rfl rfl pQ rV ?_
    | refine h_take (hE _ _) 9 rfl (by kernel_rfl) (by kernel_rfl) (by decide +kernel) rfl rfl rfl pQ rV ?_
    | refine h_take (hE _ _) 10 rfl (by kernel_rfl) (by kernel_rfl) (by decide +kernel) rfl rfl rfl pQ rV ?_
    | refine h_take (v := .slice e.pa e.p.length e.pc) (hE _ _) 3 rfl (by kernel_rfl) (by kernel_rfl) (by decide +kernel) rfl rfl rfl pQ (r_load rfl rfl (rd_blk 0 rfl rfl)) ?_
    | refine h_take (v := .slice e.qa e.q.length e.qc) (hE _ _) 5 rfl (by kernel_rfl) (by kernel_rfl) (by decide +kernel) rfl rfl rfl pQ (r_load rfl rfl (rd_blk 0 rfl rfl)) ?_
    | refine h_two 8 11 (by decide +kernel) rfl rfl rfl rfl ?_ ?_
    | refine h_one 8 (by decide +kernel) rfl rfl ?_
    | refine h_one 11 (by decide +kernel) rfl rfl ?_
    | (refine s_store (i := 0) rfl rfl rfl rfl rfl rfl (lw_lt hpre 2 (by decide)) ?_; rw [lw_set hpre 2 (by decide)]; simp only [List.set_cons_succ, List.set_cons_zero]; refine h_then (hE _ _) ?_)
    | (refine s_store (i := 0) rfl rfl rfl rfl rfl rfl (lw_lt hpre 3 (by decide)) ?_; rw [lw_set hpre 3 (by decide)]; simp only [List.set_cons_succ, List.set_cons_zero]; refine h_then (hE _ _) ?_)
    | refine h_done (by decide +kernel) ?_
    | fail
  refine q_then_n ?_
  repeat (first | refine wY ?_ | intro b)
  refine e_ret1 _ rfl rfl ⟨rfl, xs1 ++ ⟨⟨.roll, off, e.p, e.q, shadow, es.map LE.lv⟩, e.pa, e.pc, e.qa, e.qc, some ⟨tb, 0, none⟩, es.length⟩ :: xs2, es, Z, some ⟨tb, 0, none⟩, es.length, pa, pc, by simp, by rw [← hxn]; simp, hkeep _ ⟨heo'.b, heo'.bc, heo'.w, heo'.wc, heo'.bn, heo'.wn, hb7, hb8, by dsimp only; rw [List.length_map]; omega⟩, fun e' he => heo e' (by simp [he]), ?_, Ent.refl _, rfl⟩ ?_
  · intro x' hx'
    rw [List.getElem?_append_right (by omega), hxs1, Nat.sub_self] at hx'
    simp only [List.getElem?_cons_zero, Option.some.injEq] at hx'
    subst hx'
    exact ⟨rfl, rfl, rfl⟩
  · unfold SH
    have hx2 : (xs1 ++ (⟨⟨.roll, off, e.p, e.q, shadow, es.map LE.lv⟩, e.pa, e.pc, e.qa, e.qc, some ⟨tb, 0, none⟩, es.length⟩ : LV) :: xs2).length = xn := by rw [← hxn]; simp
    have hfl : (es ++ [e]).flatMap leCells ++ rest2 = es.flatMap leCells ++ (leCells e ++ rest2) := by rw [List.flatMap_append, List.append_assoc, List.flatMap_singleton]
    rw [lv_split, hpr, hpo, hx2, hfl]
    dsimp only
    rw [List.length_map]
    exact (arr_ent 1 [3, 0, 2, 1, 1] _).trans (Ent.append [_, _, _] (slG_full (leCells_flen es) (by simp only [maxLen]; omega)))
end
end Go.Proofs.YtfebpbflpdppiaaGreatDoor
namespace Go.Proofs.YtfebpbflpdppiaaGreatDoor
open Go Go.Sl
set_option maxRecDepth 100000
theorem be_lev {xs xs' : List LV} {k j : Nat} {p : List Int} {x : LV} (h : xs'.map (·.y) = becF (xs.map (·.y)) k p) (h2 : xs'.map LV.lac = xs.map LV.lac) (hx : xs[j + 1]? = some x) (x' : LV) (hx' : xs'[j + 1]? = some x') : x'.y = x.y ∧ x'.la = x.la ∧ x'.lc = x.lc := by
  have e1 : (xs'.map (·.y))[j + 1]? = some x'.y := by rw [List.getElem?_map, hx']; rfl
  have e2 : (becF (xs.map (·.y)) k p)[j + 1]? = some x.y := by
    unfold becF
    split
    · rw [List.getElem?_set, if_neg (by omega), List.getElem?_map, hx]; rfl
    · rw [List.getElem?_map, hx]; rfl
  have e3 : (xs'.map LV.lac)[j + 1]? = some x'.lac := by rw [List.getElem?_map, hx']; rfl
  have e4 : (xs.map LV.lac)[j + 1]? = some x.lac := by rw [List.getElem?_map, hx]; rfl
  rw [h, e2] at e1
  rw [h2, e4] at e3
  unfold LV.lac at e3
  simp only [Option.some.injEq, Prod.mk.injEq] at e1 e3
  exact ⟨e1.symm, e3.1.symm, e3.2.symm⟩
theorem dec_ne (a c : Nat) : decide (a ≠ c) = !decide ((a : Int) = (c : Nat)) := by
  by_cases h : a = c
  · rw [h]; simp
  · rw [decide_eq_true h, decide_eq_false (by omega)]; rfl
attribute [local irreducible] wpList Code.wp Exit.then Exit.inBlock bodyPost RunS RunV G St Ct Sat Ent At Rd GQ QL wpAny wpOp wpQuiet slP Sl.ex sep
section
variable {Z : HP} {sb lb lcap pc lc : Nat} {pa la : Option Addr} {rest : List Value} {xs : List LV} {es : List LE} {s : SS}
set_option maxHeartbeats 16000000 in
/-- the end of a transaction -/
theorem end_c (hxl : xs.length ≤ 1000) (hok : ∀ x ∈ xs, LVok Z x) (hys : xs.map (·.y) = s.ys) (e : LE) (heo : ∀ e' ∈ es ++ [e], LEok Z e') (j : Nat) (x : LV) (hx : xs[j + 1]? = some x) (hkd : x.y.kd = .roll) (hlv : x.y.levels = (es ++ [e]).map LE.lv) (hla : x.la = la) (hlc : x.lc = lc) (hel : es.length ≤ 500) (hpts : s.pts.length ≤ 1000) (hB : StB xs) (hO : oSum (endY s j x.y) j ≤ 1000000) (hres : es = [] → benF (endY s j x.y) (j + 1) = false → ∀ y ∈ becF (endY s j x.y) j x.y.bytes, y.small) :
    Ct Tryz.prog 42 #[.pointer (some ⟨sb, 0, none⟩), .int .i64 (j + 1 : Nat), .string sEnd] (SH sb lb lcap rest xs (es ++ [e]) Z la lc pa pc s.pts s.ls s.vg s.ms)
      (DeR Z sb lb lcap rest xs.length (j + 1) (endF s j x.y, 0)) nev := by
  have hxo := hok x (List.mem_of_getElem? hx)
  have heo' := heo e (by simp)
  have h0 : j + 1 < xs.length := (List.getElem?_eq_some_iff.1 hx).1
  have heY : endY s j x.y = s.ys.set (j + 1) { x.y with levels := es.map LE.lv } := by
    unfold endY
    rw [hlv]
    simp
  have hll : x.y.levels.length = es.length + 1 := by rw [hlv]; simp
  have hel2 : (es ++ [e]).length = es.length + 1 := by simp
  obtain ⟨xs1, xs2, rfl, hxs1⟩ := split_at hx
  have hpre := pre_len hxs1
  have hset : s.ys = xs1.map (·.y) ++ x.y :: xs2.map (·.y) := by rw [← hys]; simp
  unfold SH
  rw [lv_split, hel2]
  have hkeep : ∀ x' : LV, LVok Z x' → ∀ y ∈ xs1 ++ x' :: xs2, LVok Z y := fun x' h y hy => by
    rcases List.mem_append.1 hy with h1 | h1
    · exact hok y (by simp [h1])
    · rcases List.mem_cons.1 h1 with rfl | h1
      · exact h
      · exact hok y (by simp [h1])
  generalize hpr : xs1.flatMap lvCells = pre at hpre ⊢
  generalize hpo : xs2.flatMap lvCells ++ rest = post
  obtain ⟨⟨kd, off, bytes, wrote, shadow, levels⟩, va, vc, wa, wc, la', lc'⟩ := x
  obtain ⟨hb1, hb2, hb3, hb4, hb5, hb6, hb7, hb8, hb9⟩ := hxo
  dsimp only at hkd hlv hla hlc hll hb1 hb2 hb3 hb4 hb5 hb6 hb7 hb8 hb9 ⊢
  subst hkd hla hlc
  rw [hll]
  generalize hxn : (xs1 ++ (⟨⟨.roll, off, bytes, wrote, shadow, levels⟩, va, vc, wa, wc, la', lc'⟩ : LV) :: xs2).length = xn at h0
  refine Ct.of Tryz.func42 rfl Tryz.ntmps42 rfl fun m F => ?_
  repeat (first | refine wZ ?_ | intro b)
  refine l_plain rfl ?_
  apply s_val rfl rfl
  · exact RunS.v (r_index (i := j + 1) rfl rfl rfl h0)
  repeat (first | refine wZ ?_ | intro b)
  rw [decide_eq_false (by omega : ¬ ((j + 1 : Nat) : Int) = 0)]
  repeat (first | refine wZ ?_ | intro b)
  refine l_plain rfl ?_
  apply s_val (v := .string sRb) rfl rfl
  · exact r_load rfl rfl (rd_blk 1 rfl (lw_get hpre 0 (by decide)))
  repeat (first | refine wZ ?_ | intro b)
  refine l_plain rfl ?_
  apply s_val (v := .slice la' (es.length + 1) lc') rfl rfl
  · exact r_load rfl rfl (rd_blk 1 rfl (lw_get hpre 5 (by decide)))
  repeat (first | refine wZ ?_ | intro b)
  refine G.ent (Ent.trans (arr_ent 0 [3] _) (Ent.refl _)) ?_
  refine slG_open (fun _ h => absurd h (by omega)) (fun tb rest2 q1 q2 q3 q4 q5 => ?_)
  subst q1
  refine l_plain rfl ?_
  apply s_val (v := .slice (some ⟨tb, 0, none⟩) (es.length + 1) lc') rfl rfl
  · exact r_load rfl rfl (rd_blk 2 rfl (lw_get hpre 5 (by decide)))
  repeat (first | refine wZ ?_ | intro b)
  rw [show es.length + 1 - 1 = es.length from by omega]
  refine l_plain rfl ?_
  apply s_val (v := .pointer (some ⟨tb, 0 + es.length * 2, none⟩)) rfl rfl
  · exact RunS.v (r_index (i := es.length) rfl rfl rfl (by omega))
  refine l_plain rfl ?_
  apply s_val (v := .agg (leCells e).toArray) rfl rfl
  · exact r_loadN (vs := leCells e) rfl rfl rfl (RdN.of fun jj v hv => rd_blk 0 rfl (le_get es e rest2 jj v hv))
  repeat (first | refine wY ?_ | intro b)
  revert b; intro tb9
  refine G.ent (L' := blk tb9 (cl (leCells e) 139) :: _) (Ent.refl _) ?_
  refine l_plain rfl ?_
  apply s_val (v := .slice (some ⟨tb, 0, none⟩) (es.length + 1) lc') rfl rfl
  · exact r_load rfl rfl (rd_blk 3 rfl (lw_get hpre 5 (by decide)))
  repeat (first | refine wY ?_ | intro b)
  rw [show es.length + 1 - 1 = es.length from by omega]
  refine l_plain rfl ?_
  apply s_val (v := .slice (some ⟨tb, 0, none⟩) es.length es.length) rfl rfl
  · exact RunS.v (r_sl3 rfl rfl rfl (by omega) (by omega))
  repeat (first | refine wY ?_ | intro b)
  refine l_plain rfl ?_
  refine s_store (i := 3) rfl rfl rfl rfl rfl rfl (lw_lt hpre 5 (by decide)) ?_
  rw [lw_set hpre 5 (by decide)]
  simp only [List.set_cons_succ, List.set_cons_zero]
  repeat (first | refine wY ?_ | intro b)
  obtain ⟨xs', hxs'⟩ : ∃ xs' : List LV, xs' = xs1 ++ (⟨⟨.roll, off, bytes, wrote, shadow, es.map LE.lv⟩, va, vc, wa, wc, some ⟨tb, 0, none⟩, es.length⟩ : LV) :: xs2 := ⟨_, rfl⟩
  have hys2 : xs'.map (·.y) = endY s j ⟨.roll, off, bytes, wrote, shadow, levels⟩ := by rw [heY, hset, set_split (by simpa using hxs1), hxs']; simp
  have hlen : xs'.length = xn := by rw [← hxn, hxs']; simp
  rw [hxn] at hxl
  have hok2 : ∀ x ∈ xs', LVok Z x := by rw [hxs']; exact hkeep _ ⟨hb1, hb2, hb3, hb4, hb5, hb6, hb7, hb8, by dsimp only; rw [List.length_map]; omega⟩
  have hx2 : xs'[j + 1]? = some ⟨⟨.roll, off, bytes, wrote, shadow, es.map LE.lv⟩, va, vc, wa, wc, some ⟨tb, 0, none⟩, es.length⟩ := by
    rw [hxs', List.getElem?_append_right (by omega), hxs1, Nat.sub_self]
    rfl
  have hB2 : StB xs' := by
    intro k y hy
    by_cases hk : k = j
    · subst hk
      rw [hx2] at hy
      cases hy
      exact fun h => by cases h
    · refine hB k y ?_
      rw [hxs'] at hy
      rw [← hy]
      by_cases h1 : k + 1 < xs1.length
      · rw [List.getElem?_append_left h1, List.getElem?_append_left h1]
      · rw [List.getElem?_append_right (by omega), List.getElem?_append_right (by omega), show k + 1 - xs1.length = (k - j - 1) + 1 from by omega, List.getElem?_cons_succ, List.getElem?_cons_succ]
  have hcell : xs'.flatMap lvCells ++ rest = pre ++ ([.string KD.roll.s, .int .i64 (off : Nat), .slice va bytes.length vc, .slice wa wrote.length wc, .int .i64 (shadow : Nat), .slice (some ⟨tb, 0, none⟩) es.length es.length] ++ post) := by
    rw [hxs', lv_split, hpr, hpo]
    dsimp only
    rw [List.length_map]
  have hfl : (es ++ [e]).flatMap leCells ++ rest2 = es.flatMap leCells ++ (leCells e ++ rest2) := by rw [List.flatMap_append, List.append_assoc, List.flatMap_singleton]
  rw [← hcell, hfl]
  refine G.ent (Ent.trans (arr_ent 1 [3, 0, 2, 1, 1] _) (Ent.append [_, _, _] (slG_full (leCells_flen es) (by simp only [maxLen]; omega)))) ?_
  unfold endF
  dsimp only
  rw [hll, ← hys2]
  rw [← hys2] at hO hres
  have hlast : ∀ x', xs'[j + 1]? = some x' → x'.y.levels = es.map LE.lv ∧ x'.la = some ⟨tb, 0, none⟩ ∧ x'.lc = es.length := fun x' h => by
    rw [hx2] at h
    cases h
    exact ⟨rfl, rfl, rfl⟩
  subst hlen
  clear heY hset hx hok hB hys
  by_cases hn : 1 < es.length + 1
  · rw [decide_eq_true (by omega : (1 : Int) < ((es.length + 1 : Nat) : Int)), if_pos hn]
    repeat (first | refine wZ ?_ | intro b)
    exact e_ret1 _ rfl rfl ⟨rfl, xs', es, Z, _, _, pa, pc, rfl, rfl, hok2, fun e' he => heo e' (by simp [he]), hlast, Ent.refl _, rfl⟩ (Ent.refl _)
  · rw [decide_eq_false (by omega : ¬ (1 : Int) < ((es.length + 1 : Nat) : Int)), if_neg hn]
    have hes : es = [] := List.length_eq_zero_iff.1 (by omega)
    subst hes
    repeat (first | refine wZ ?_ | intro b)
    refine l_plain rfl (s_call rfl rfl (beneath_c hxl (j + 1) h0 (by omega)) [0, 0] rfl ?_ (fun _ _ h => h.elim))
    rintro _ _ ⟨rfl, rfl⟩
    by_cases hbn : benF (xs'.map (·.y)) (j + 1) = true
    · rw [hbn, if_pos rfl]
      repeat (first | refine wZ ?_ | intro b)
      exact e_ret1 _ rfl rfl ⟨rfl, xs', [], Z, _, _, pa, pc, rfl, rfl, hok2, fun e' he => by simp at he, hlast, Ent.refl _, rfl⟩ (Ent.refl _)
    · rw [Bool.not_eq_true] at hbn
      have hres := hres rfl hbn
      rw [hbn, if_neg (by simp)]
      repeat (first | refine wZ ?_ | intro b)
      apply qt_val (v := .slice wa wrote.length wc) rfl rfl rfl
      · exact r_load rfl rfl (rd_blk 1 rfl (lc_get hx2 3 (by decide)))
      repeat (first | refine wZ ?_ | intro b)
      apply qt_val (v := .slice va bytes.length vc) rfl rfl rfl
      · exact r_load rfl rfl (rd_blk 1 rfl (lc_get hx2 2 (by decide)))
      repeat (first | refine wZ ?_ | intro b)
      refine qt_call rfl rfl (below_c wrote wa wrote.length wc bytes.length hb3 (by omega) (by omega)) [2] rfl (arr_ent 0 [1, 1, 0] _) ?_
      have hvw := view_c (sb := sb) (lb := lb) (lcap := lcap) (rest := rest) (p1 := .slice pa s.pts.length pc) (p2 := .bool s.ls) (p3 := .bool s.vg) (p4 := .bool s.ms) hxl hok2 hB2 j (by omega)
      have hvb := viewF_le hok2 j
      apply qt_val rfl rfl rfl
      · exact RunS.v (r_not rfl)
      refine qt_nil ?_
      cases hbl : belowF wrote bytes.length with
      | false =>
        rw [if_pos rfl]
        repeat (first | refine wY ?_ | intro b)
        refine G.ent (L' := blk sb (cl [.slice (some ⟨lb, 0, none⟩) xs'.length lcap, .slice pa s.pts.length pc, .bool s.ls, .bool s.vg, .bool s.ms] 75) :: blk lb (cl (xs'.flatMap lvCells ++ rest) 80) :: Z :: slG (.slice (some ⟨tb, 0, none⟩) 0 0) 139 2 [] :: slP (.slice pa s.pts.length pc) 2 1 (ints s.pts) :: F) (Ent.refl _) ?_
        refine h_any [blk lb (cl (xs'.flatMap lvCells ++ rest) 80)] 15 rfl ?_
        have hE : ∀ (A : HP) (R : List HP), Ent (A :: blk lb (cl (xs'.flatMap lvCells ++ rest) 80) :: R) [blk lb (cl (xs'.flatMap lvCells ++ rest) 80)] := fun A R => Ent.drop.trans (Ent.left [_] _)
        refine h_take (hE _ _) 0 rfl (by kernel_rfl) (by kernel_rfl) (by kernel_rfl) rfl rfl rfl pQ rV ?_
        refine h_take (hE _ _) 1 rfl (by kernel_rfl) (by kernel_rfl) (by kernel_rfl) rfl rfl rfl pQ rV ?_
        refine h_take (hE _ _) 2 rfl (by kernel_rfl) (by kernel_rfl) (by kernel_rfl) rfl rfl rfl pQ rV ?_
        refine h_take (hE _ _) 3 rfl (by kernel_rfl) (by kernel_rfl) (by kernel_rfl) rfl rfl rfl pQ rV ?_
        refine h_take (v := .slice va bytes.length vc) (hE _ _) 4 rfl (by kernel_rfl) (by kernel_rfl) (by kernel_rfl) rfl rfl rfl pQ (r_load rfl rfl (rd_blk 0 rfl (lc_get hx2 2 (by decide)))) ?_
        refine h_take (hE _ _) 5 rfl (by kernel_rfl) (by kernel_rfl) (by kernel_rfl) rfl rfl rfl pQ rV ?_
        refine h_take (hE _ _) 6 rfl (by kernel_rfl) (by kernel_rfl) (by kernel_rfl) rfl rfl rfl pQ rV ?_
        refine h_take (hE _ _) 7 rfl (by kernel_rfl) (by kernel_rfl) (by kernel_rfl) rfl rfl rfl pQ rV ?_
        refine h_take (hE _ _) 8 rfl (by kernel_rfl) (by kernel_rfl) (by kernel_rfl) rfl rfl rfl pQ rV ?_
        refine h_one 9 (by kernel_rfl) rfl rfl ?_
        refine s_call rfl rfl hvw [0, 0] rfl ?_ (fun _ _ h => h.elim)
        rintro _ _ ⟨⟨a1, c1, rfl, hv1, hv2⟩, rfl⟩
        refine h_then (hE _ _) ?_
        refine h_take (hE _ _) 10 rfl (by kernel_rfl) (by kernel_rfl) (by kernel_rfl) rfl rfl rfl pQ rV ?_
        refine h_take (hE _ _) 11 rfl (by kernel_rfl) (by kernel_rfl) (by kernel_rfl) rfl rfl rfl pQ rV ?_
        refine h_take (hE _ _) 12 rfl (by kernel_rfl) (by kernel_rfl) (by kernel_rfl) rfl rfl rfl pQ rV ?_
        refine h_take (hE _ _) 13 rfl (by kernel_rfl) (by kernel_rfl) (by kernel_rfl) rfl rfl rfl pQ rV ?_
        refine h_one 14 (by kernel_rfl) rfl rfl ?_
        refine s_store (i := 0) rfl rfl rfl rfl rfl rfl rfl ?_
        refine h_then (hE _ _) ?_
        refine h_done (by kernel_rfl) ?_
        refine q_then_n ?_
        repeat (first | refine wZ ?_ | intro b)
        refine l_plain rfl ?_
        apply s_val (v := .slice va bytes.length vc) rfl rfl
        · exact r_load rfl rfl (rd_blk 1 rfl (lc_get hx2 2 (by decide)))
        refine l_plain rfl (s_call rfl rfl (become_c hxl hok2 j (by omega) bytes va vc hb1 hO hres) [0, 0, 0] rfl ?_ (fun _ _ h => h.elim))
        rintro v B ⟨xs'', Z', r1, ⟨r2, r3⟩, r4, r5, rfl⟩
        repeat (first | refine wZ ?_ | intro b)
        refine e_ret1 _ rfl rfl ⟨rfl, xs'', [], Z', some ⟨tb, 0, none⟩, 0, pa, pc, r1, r2, r4, fun e' he => by simp at he, fun x' hx' => ?_, r5, rfl⟩ ?_
        · obtain ⟨t1, t2, t3⟩ := be_lev r1 r3 hx2 x' hx'
          exact ⟨by rw [t1], t2, t3⟩
        · unfold SH
          dsimp only
          rw [r2, dec_ne]
          exact Ent.refl _
      | true =>
        rw [if_neg (by simp)]
        repeat (first | refine wZ ?_ | intro b)
        refine l_plain rfl (s_call rfl rfl (top_c hxl (by omega)) [0, 0] rfl ?_ (fun _ _ h => h.elim))
        rintro _ _ ⟨rfl, rfl⟩
        repeat (first | refine wZ ?_ | intro b)
        refine G.ent (L' := blk sb (cl [.slice (some ⟨lb, 0, none⟩) xs'.length lcap, .slice pa s.pts.length pc, .bool s.ls, .bool s.vg, .bool s.ms] 75) :: blk lb (cl (xs'.flatMap lvCells ++ rest) 80) :: Z :: slG (.slice (some ⟨tb, 0, none⟩) 0 0) 139 2 [] :: slP (.slice pa s.pts.length pc) 2 1 (ints s.pts) :: F) (Ent.refl _) ?_
        generalize hpt : (if j + 1 = topF (xs'.map (·.y)) then s.pts ++ [(bytes.length : Int)] else s.pts) = pts'
        refine c_mid (α := Option Addr × Nat) (fun _ => [(0, .pointer (some ⟨sb, 0, none⟩)), (1, .int .i64 (j + 1 : Nat)), (7, .pointer (some ⟨lb, 0 + (j + 1) * 6, none⟩))])
          (fun p => blk sb (cl [.slice (some ⟨lb, 0, none⟩) xs'.length lcap, .slice p.1 pts'.length p.2, .bool s.ls, .bool s.vg, .bool s.ms] 75) :: blk lb (cl (xs'.flatMap lvCells ++ rest) 80) :: Z :: slG (.slice (some ⟨tb, 0, none⟩) 0 0) 139 2 [] :: slP (.slice p.1 pts'.length p.2) 2 1 (ints pts') :: F) (fun _ => True) ?_ ?_
        · by_cases htop : j + 1 = topF (xs'.map (·.y))
          · rw [decide_eq_true (by omega : ((j + 1 : Nat) : Int) = (topF (xs'.map (·.y)) : Nat))]
            rw [if_pos htop] at hpt
            repeat (first | refine wY ?_ | intro b)
            generalize hSB : blk sb (cl [.slice (some ⟨lb, 0, none⟩) xs'.length lcap, .slice pa s.pts.length pc, .bool s.ls, .bool s.vg, .bool s.ms] 75) = SB
            have hE1 : ∀ (A : HP) (R : List HP), Ent (A :: blk lb (cl (xs'.flatMap lvCells ++ rest) 80) :: R) [blk lb (cl (xs'.flatMap lvCells ++ rest) 80)] := fun A R => Ent.drop.trans (Ent.left [_] _)
            have hE2 : ∀ (A B : HP) (R : List HP), Ent (A :: B :: blk lb (cl (xs'.flatMap lvCells ++ rest) 80) :: R) [blk lb (cl (xs'.flatMap lvCells ++ rest) 80)] := fun A B R => Ent.drop.trans (hE1 _ _)
            have hE3 : ∀ (A B C : HP) (R : List HP), Ent (A :: B :: C :: blk lb (cl (xs'.flatMap lvCells ++ rest) 80) :: R) [blk lb (cl (xs'.flatMap lvCells ++ rest) 80)] := fun A B C R => Ent.drop.trans (hE2 _ _ _)
            have hld : ∀ i L R, takeAt i L = some (SB, R) → Rd L ⟨sb, 0 + 1, none⟩ (.slice pa s.pts.length pc) := fun i L R h => by
              rw [← hSB] at h
              exact rd_blk i h rfl
            refine h_any [blk lb (cl (xs'.flatMap lvCells ++ rest) 80)] 15 rfl ?_
            refine h_take (hE1 _ _) 0 rfl (by kernel_rfl) (by kernel_rfl) (by kernel_rfl) rfl rfl rfl pQ rV ?_
            refine h_take (hE1 _ _) 1 rfl (by kernel_rfl) (by kernel_rfl) (by kernel_rfl) rfl rfl rfl pQ rV ?_
            refine h_take (hE1 _ _) 2 rfl (by kernel_rfl) (by kernel_rfl) (by kernel_rfl) rfl rfl rfl pQ rV ?_
            refine h_take (hE1 _ _) 3 rfl (by kernel_rfl) (by kernel_rfl) (by kernel_rfl) rfl rfl rfl pQ rV ?_
            refine h_take (hE1 _ _) 5 rfl (by kernel_rfl) (by kernel_rfl) (by kernel_rfl) rfl rfl rfl pQ rV ?_
            refine h_take (hE1 _ _) 6 rfl (by kernel_rfl) (by kernel_rfl) (by kernel_rfl) rfl rfl rfl pQ rV ?_
            refine h_take (hE1 _ _) 7 rfl (by kernel_rfl) (by kernel_rfl) (by kernel_rfl) rfl rfl rfl pQ rV ?_
            refine h_take (v := .slice va bytes.length vc) (hE1 _ _) 8 rfl (by kernel_rfl) (by kernel_rfl) (by kernel_rfl) rfl rfl rfl pQ (r_load rfl rfl (rd_blk 0 rfl (lc_get hx2 2 (by decide)))) ?_
            refine h_take (hE1 _ _) 9 rfl (by kernel_rfl) (by kernel_rfl) (by kernel_rfl) rfl rfl rfl pQ rV ?_
            repeat' first
              | refine h_two 4 10 (by decide +kernel) rfl rfl rfl rfl ?_ ?_
              | refine h_one 4 (by decide +kernel) rfl rfl ?_
              | refine h_one 10 (by decide +kernel) rfl rfl ?_
              | (refine s_build1 rfl rfl rfl rfl rfl rfl rfl fun tb2 => ?_; refine h_then (hE2 _ _ _) ?_)
              | (apply s_val (v := .slice pa s.pts.length pc) rfl rfl; (first | exact r_load rfl rfl (hld 0 _ _ rfl) | exact r_load rfl rfl (hld 1 _ _ rfl)); (first | refine h_then (hE1 _ _) ?_ | refine h_then (hE2 _ _ _) ?_))
              | fail
            all_goals
              refine h_one 11 (by kernel_rfl) rfl rfl ?_
              refine s_append (i := 5) rfl rfl rfl (Src.some _ _ _ _ _ rfl (rdn_all 0 rfl)) rfl rfl (by simp [ints]) rfl (by omega) (by simp only [maxLen]; omega) rfl fun a3 c3 => ?_
              refine h_then (hE3 _ _ _ _) ?_
              refine h_take (hE3 _ _ _ _) 12 rfl (by kernel_rfl) (by kernel_rfl) (by kernel_rfl) rfl rfl rfl pQ rV ?_
              refine h_take (hE3 _ _ _ _) 13 rfl (by kernel_rfl) (by kernel_rfl) (by kernel_rfl) rfl rfl rfl pQ rV ?_
              refine h_one 14 (by kernel_rfl) rfl rfl ?_
              subst hSB
              refine s_store (i := 2) rfl rfl rfl rfl rfl rfl rfl ?_
              refine h_then (hE3 _ _ _ _) ?_
              refine h_done (by kernel_rfl) ?_
              refine q_then_n ?_
              subst hpt
              refine at_intro (a3, c3) trivial ⟨rfl, rfl, rfl, trivial⟩ ?_
              dsimp only
              rw [show (s.pts ++ [(bytes.length : Int)]).length = s.pts.length + 1 from by simp, show ints (s.pts ++ [(bytes.length : Int)]) = ints s.pts ++ [.int .i64 (bytes.length : Nat)] from by simp [ints]]
              exact arr_ent 1 [0, 2, 2, 2, 0] _
          · rw [decide_eq_false (by omega : ¬ ((j + 1 : Nat) : Int) = (topF (xs'.map (·.y)) : Nat))]
            rw [if_neg htop] at hpt
            subst hpt
            repeat (first | refine wZ ?_ | intro b)
            exact at_intro (pa, pc) trivial ⟨rfl, rfl, rfl, trivial⟩ (Ent.refl _)
        rintro ⟨pa', pc'⟩ _
        repeat (first | refine wZ ?_ | intro b)
        refine l_plain rfl ?_
        apply s_val (v := .slice va bytes.length vc) rfl rfl
        · exact r_load rfl rfl (rd_blk 1 rfl (lc_get hx2 2 (by decide)))
        refine l_plain rfl (s_call rfl rfl (become_c hxl hok2 j (by omega) bytes va vc hb1 hO hres) [0, 0, 0] rfl ?_ (fun _ _ h => h.elim))
        rintro v B ⟨xs'', Z', r1, ⟨r2, r3⟩, r4, r5, rfl⟩
        repeat (first | refine wZ ?_ | intro b)
        refine e_ret1 _ rfl rfl ⟨rfl, xs'', [], Z', some ⟨tb, 0, none⟩, 0, pa', pc', r1, r2, r4, fun e' he => by simp at he, fun x' hx' => ?_, r5, rfl⟩ ?_
        · obtain ⟨t1, t2, t3⟩ := be_lev r1 r3 hx2 x' hx'
          exact ⟨by rw [t1], t2, t3⟩
        · unfold SH
          dsimp only
          rw [r2]
          exact Ent.refl _
end
end Go.Proofs.YtfebpbflpdppiaaGreatDoor
namespace Go.Proofs.YtfebpbflpdppiaaGreatDoor
open Go Go.Sl
set_option maxRecDepth 100000
/-- begin, rollback, end -/
inductive DK where
  | begin
  | roll
  | fin
def DK.s : DK → ByteArray
  | .begin => sBegin
  | .roll => sRoll
  | .fin => sEnd
def begF (s : SS) (j : Nat) (x : Ly) : SS := { s with ys := s.ys.set (j + 1) { begY s j x with levels := x.levels ++ [((begY s j x).bytes, (begY s j x).wrote)] } }
/-- a deed at the rollback j + 1 -/
def deedAt (s : SS) (j : Nat) (x : Ly) : DK → SS × Nat
  | .begin => (begF s j x, 0)
  | .roll => if x.levels = [] then (s, 3) else (rollF s j x, 0)
  | .fin => if x.levels = [] then (s, 3) else (endF s j x, 0)
theorem deedAt_roll (s : SS) (j : Nat) (x : Ly) : deedAt s j x .roll = if x.levels = [] then (s, 3) else (rollF s j x, 0) := rfl
theorem deedAt_fin (s : SS) (j : Nat) (x : Ly) : deedAt s j x .fin = if x.levels = [] then (s, 3) else (endF s j x, 0) := rfl
theorem lv_nil {es : List LE} (h : es.map LE.lv = []) : es = [] := List.map_eq_nil_iff.1 h
attribute [local irreducible] wpList Code.wp Exit.then Exit.inBlock bodyPost RunS RunV G St Ct Sat Ent At Rd GQ QL wpAny wpOp wpQuiet slP Sl.ex sep
section
variable {Z : HP} {sb lb lcap pc lc : Nat} {pa la : Option Addr} {rest : List Value} {xs : List LV} {es : List LE} {s : SS}
set_option maxHeartbeats 4000000 in
theorem deed0_c (hxl : xs.length ≤ 1000) (hok : ∀ x ∈ xs, LVok Z x) (hB : StB xs) (heo : ∀ e ∈ es, LEok Z e) (hys : xs.map (·.y) = s.ys) (j : Nat) (x : LV) (hx : xs[j + 1]? = some x) (hkd : x.y.kd = .roll) (hlv : x.y.levels = es.map LE.lv) (hla : x.la = la) (hlc : x.lc = lc) (hel : es.length ≤ 500)
    (hpts : s.pts.length ≤ 1000) (dk : DK) (hO : oSum s.ys j ≤ 1000000) (hres : ∀ y ∈ (deedAt s j x.y dk).1.ys, y.small) :
    Ct Tryz.prog 42 #[.pointer (some ⟨sb, 0, none⟩), .int .i64 (j + 1 : Nat), .string dk.s] (SH sb lb lcap rest xs es Z la lc pa pc s.pts s.ls s.vg s.ms)
      (DeR Z sb lb lcap rest xs.length (j + 1) (deedAt s j x.y dk)) nev := by
  have hoe : oSum (endY s j x.y) j = oSum s.ys j := by
    unfold endY
    generalize { x.y with levels := x.y.levels.dropLast } = z
    have : ∀ i, i ≤ j → oSum (s.ys.set (j + 1) z) i = oSum s.ys i := by
      intro i
      induction i with
      | zero => intro _; rfl
      | succ i ih =>
        intro hi
        have ih := ih (by omega)
        unfold oSum
        rw [ih, List.getElem?_set, if_neg (by omega)]
    exact this j (Nat.le_refl _)
  cases dk with
  | begin =>
    refine begin_c hxl hok hB heo hys j x hx hkd hlv hla hlc hel ?_
    have := viewF_le hok j
    rwa [hys] at this
  | roll =>
    by_cases h0 : x.y.levels = []
    · have he := lv_nil (hlv.symm.trans h0)
      subst he
      rw [deedAt_roll, if_pos h0]
      exact perm_c hxl hok hys j x hx hkd h0 hla hlc DK.roll.s (by rfl)
    · obtain ⟨es0, e, rfl⟩ := sum_last (l := es) (fun h => h0 (by rw [hlv, h]; rfl))
      rw [deedAt_roll, if_neg h0]
      exact rollback_c hxl hok hys e heo j x hx hkd hlv hla hlc (by simp at hel; omega)
  | fin =>
    by_cases h0 : x.y.levels = []
    · have he := lv_nil (hlv.symm.trans h0)
      subst he
      rw [deedAt_fin, if_pos h0]
      exact perm_c hxl hok hys j x hx hkd h0 hla hlc DK.fin.s (by rfl)
    · obtain ⟨es0, e, rfl⟩ := sum_last (l := es) (fun h => h0 (by rw [hlv, h]; rfl))
      rw [deedAt_fin, if_neg h0] at hres ⊢
      refine end_c hxl hok hys e heo j x hx hkd hlv hla hlc (by simp at hel; omega) hpts hB (by rw [hoe]; exact hO) fun h1 h2 => ?_
      subst h1
      dsimp only at hres
      unfold endF at hres
      rw [if_neg (by rw [hlv]; simp), if_neg (by rw [h2]; simp)] at hres
      split at hres
      · exact hres
      · exact hres
set_option maxHeartbeats 4000000 in
theorem deed_c (hxl : xs.length ≤ 1000) (hok : ∀ x ∈ xs, LVok Z x) (hB : StB xs) (heo : ∀ e ∈ es, LEok Z e) (hys : xs.map (·.y) = s.ys) (j : Nat) (x : LV) (hx : xs[j + 1]? = some x) (hkd : x.y.kd = .roll) (hlv : x.y.levels = es.map LE.lv) (hla : x.la = la) (hlc : x.lc = lc) (hel : es.length ≤ 500)
    (hpts : s.pts.length ≤ 1000) (dk : DK) (hO : oSum s.ys j ≤ 1000000) (hres : ∀ y ∈ (deedAt s j x.y dk).1.ys, y.small) :
    ∀ d, j + 1 + d < xs.length → (∀ i y, j + 1 < i → i ≤ j + 1 + d → xs[i]? = some y → y.y.kd = .inner) →
    Ct Tryz.prog 42 #[.pointer (some ⟨sb, 0, none⟩), .int .i64 (j + 1 + d : Nat), .string dk.s] (SH sb lb lcap rest xs es Z la lc pa pc s.pts s.ls s.vg s.ms)
      (DeR Z sb lb lcap rest xs.length (j + 1) (deedAt s j x.y dk)) nev := by
  intro d
  induction d with
  | zero => exact fun _ _ => deed0_c hxl hok hB heo hys j x hx hkd hlv hla hlc hel hpts dk hO hres
  | succ d ih =>
    intro hd hin
    have ih := ih (by omega) fun i y h1 h2 h3 => hin i y h1 (by omega) h3
    obtain ⟨y, hy⟩ : ∃ y, xs[j + 1 + (d + 1)]? = some y := ⟨xs[j + 1 + (d + 1)], List.getElem?_eq_getElem hd⟩
    have hyk := hin _ y (by omega) (Nat.le_refl _) hy
    unfold SH at ih ⊢
    refine Ct.of Tryz.func42 rfl Tryz.ntmps42 rfl fun m F => ?_
    repeat (first | refine wZ ?_ | intro b)
    refine l_plain rfl ?_
    apply s_val rfl rfl
    · exact RunS.v (r_index (i := j + 1 + (d + 1)) rfl rfl rfl hd)
    repeat (first | refine wZ ?_ | intro b)
    rw [decide_eq_false (by omega : ¬ ((j + 1 + (d + 1) : Nat) : Int) = 0)]
    repeat (first | refine wZ ?_ | intro b)
    refine l_plain rfl ?_
    apply s_val (v := .string sInner) rfl rfl
    · exact r_load rfl rfl (rd_blk 1 rfl ((lc_get hy 0 (by decide)).trans (by rw [lvCells, hyk]; rfl)))
    repeat (first | refine wZ ?_ | intro b)
    refine l_plain rfl (s_call rfl rfl ih [0, 0, 0, 0, 0] rfl ?_ (fun _ _ h => h.elim))
    rintro v B ⟨rfl, h1⟩
    repeat (first | refine wZ ?_ | intro b)
    exact e_ret1 _ rfl rfl ⟨rfl, h1⟩ (Ent.refl _)
end
end Go.Proofs.YtfebpbflpdppiaaGreatDoor
namespace Go.Proofs.YtfebpbflpdppiaaGreatDoor
open Go Go.Sl
set_option maxRecDepth 100000
/-- what is to be told -/
structure Wnt where
  e : Int
  n : Int
  b : List Int
def w0 : Wnt := ⟨0, 0, []⟩
def inT (s : SS) : Bool := match s.ys[topF s.ys]? with
  | some x => decide (0 < x.levels.length)
  | none => false
def lastK (s : SS) : Nat := s.ys.length - 1
def chS (s : SS) (wr : Bool) (o : Nat) (b : List Int) : SS := { s with ys := (chF s.ys (lastK s) wr o b).1, ms := (chF s.ys (lastK s) wr o b).2.1 || s.ms }
def doW (s : SS) (off : Int) (bs : List UInt8) : SS × Wnt × Bool :=
  if off < 0 then (if bs.length = 0 then (s, w0, false) else (s, ⟨-1, 0, []⟩, true))
  else if bs.length = 0 ∧ sizeF s.ys (lastK s) < off then ({ s with ls := true }, w0, false)
  else (chS s true off.toNat (kn bs), ⟨((chF s.ys (lastK s) true off.toNat (kn bs)).2.2 : Nat), if (chF s.ys (lastK s) true off.toNat (kn bs)).2.2 = 0 then (bs.length : Nat) else 0, []⟩, true)
def rdE (s : SS) (n : Int) (p : List Int) (fr to : Nat) : Int := if 0 < topF s.ys ∧ to = p.length ∧ inT s = true then -2 else if ((to - fr : Nat) : Int) < n then 1 else 0
def doRd (s : SS) (off n : Int) : SS × Wnt × Bool :=
  if n < 1 then ({ s with ls := decide (n < 0) }, w0, false)
  else if off < 0 then (s, ⟨-1, 0, []⟩, true)
  else (s, ⟨rdE s n (viewF s.ys (lastK s)) (min off.toNat (viewF s.ys (lastK s)).length) (min (off + n).toNat (viewF s.ys (lastK s)).length), ((min (off + n).toNat (viewF s.ys (lastK s)).length - min off.toNat (viewF s.ys (lastK s)).length : Nat) : Int), ((viewF s.ys (lastK s)).take (min (off + n).toNat (viewF s.ys (lastK s)).length)).drop (min off.toNat (viewF s.ys (lastK s)).length)⟩, true)
def isIn (s : SS) : Bool := match s.ys[lastK s]? with
  | some x => x.kd.isI
  | none => false
def doTr (s : SS) (n : Int) : SS × Wnt × Bool :=
  if n < 0 then (if isIn s = true then ({ s with ls := true }, w0, false) else (s, ⟨-1, 0, []⟩, true))
  else (chS s false n.toNat [], ⟨((chF s.ys (lastK s) false n.toNat []).2.2 : Nat), 0, []⟩, true)
def doPu (s : SS) (off n : Int) : SS × Wnt × Bool :=
  if topF s.ys = 0 then (s, w0, false)
  else if inT s = true then ({ s with ls := true }, w0, false)
  else if off < 0 ∨ n < 0 then (s, ⟨-1, 0, []⟩, true)
  else (s, ⟨3, 0, []⟩, true)
def deedT (s : SS) (d : DK) : SS × Nat := match s.ys[topF s.ys]? with
  | some x => deedAt s (topF s.ys - 1) x d
  | none => (s, 0)
def doDe (s : SS) (d : DK) : SS × Wnt × Bool :=
  if topF s.ys = 0 then (s, w0, false)
  else ((deedT s d).1, ⟨(deedT s d).2, 0, []⟩, !(deedT s d).1.ls)
def doF (s : SS) (d : ByteArray) (off n : Int) (bs : List UInt8) : SS × Wnt × Bool :=
  if s.ls = true ∨ off < -262144 ∨ n < -262144 ∨ shortF s.ys = true then ({ s with ls := true }, w0, false)
  else if d = sWrite then doW s off bs
  else if d = sRead then doRd s off n
  else if d = sSize then (s, ⟨0, sizeF s.ys (lastK s), []⟩, true)
  else if d = sTrunc then doTr s n
  else if d = sPunch then doPu s off n
  else if d = sBegin then doDe s .begin
  else if d = sEnd then doDe s .fin
  else if d = sRoll then doDe s .roll
  else if d = sSync then (s, w0, true)
  else ({ s with ls := true }, w0, false)
/- kinds, and levels -/
theorem topG_congr {l l' : List Ly} (h : l.map (·.kd) = l'.map (·.kd)) : ∀ k, topG l k = topG l' k
  | 0 => rfl
  | k + 1 => by
    have ih := topG_congr h k
    have e : (l[k + 1]?).map (·.kd) = (l'[k + 1]?).map (·.kd) := by rw [← List.getElem?_map, ← List.getElem?_map, h]
    unfold topG
    cases h1 : l[k + 1]? with
    | none =>
      rw [h1] at e
      cases h2 : l'[k + 1]? with
      | none => exact ih
      | some y => rw [h2] at e; cases e
    | some x =>
      rw [h1] at e
      cases h2 : l'[k + 1]? with
      | none => rw [h2] at e; cases e
      | some y =>
        rw [h2] at e
        simp only [Option.map_some, Option.some.injEq] at e
        dsimp only
        rw [e, ih]
theorem topF_congr {l l' : List Ly} (h : l.map (·.kd) = l'.map (·.kd)) : topF l = topF l' := by
  have : l.length = l'.length := by have := congrArg List.length h; simpa using this
  unfold topF
  rw [this, topG_congr h]
theorem topG_le (l : List Ly) : ∀ k, topG l k ≤ k
  | 0 => Nat.le_refl _
  | k + 1 => by
    have := topG_le l k
    unfold topG
    split
    · split <;> omega
    · omega
theorem topF_lt {l : List Ly} (h : 0 < l.length) : topF l < l.length := by
  have := topG_le l (l.length - 1)
  unfold topF
  omega
theorem topG_isR {l : List Ly} : ∀ k, 0 < topG l k → ∀ x, l[topG l k]? = some x → x.kd = .roll
  | 0 => fun h => absurd h (Nat.lt_irrefl 0)
  | k + 1 => by
    unfold topG
    cases h1 : l[k + 1]? with
    | none => exact topG_isR k
    | some y =>
      dsimp only
      split
      · rename_i hR
        intro _ x hx
        rw [h1] at hx
        cases hx
        cases hk : y.kd <;> rw [hk] at hR <;> first | rfl | cases hR
      · exact topG_isR k
theorem topG_above {l : List Ly} : ∀ k i x, topG l k < i → i ≤ k → l[i]? = some x → x.kd.isR = false
  | 0, i, x, h1, h2, _ => by omega
  | k + 1, i, x, h1, h2, hx => by
    unfold topG at h1
    cases h : l[k + 1]? with
    | none =>
      rw [h] at h1
      by_cases hi : i = k + 1
      · subst hi
        rw [h] at hx
        cases hx
      · exact topG_above k i x h1 (by omega) hx
    | some y =>
      rw [h] at h1
      dsimp only at h1
      split at h1
      · omega
      · rename_i hk
        by_cases hi : i = k + 1
        · subst hi
          rw [h] at hx
          cases hx
          simpa using hk
        · exact topG_above k i x h1 (by omega) hx
theorem topF_isR {l : List Ly} (h : 0 < topF l) {x : Ly} (hx : l[topF l]? = some x) : x.kd = .roll := topG_isR _ h x hx
theorem topF_above {l : List Ly} {i : Nat} {x : Ly} (h : topF l < i) (hx : l[i]? = some x) : x.kd.isR = false := topG_above _ i x h (by have := (List.getElem?_eq_some_iff.1 hx).1; omega) hx
theorem set_map {α β : Type} (f : α → β) {l : List α} {k : Nat} {x y : α} (hx : l[k]? = some x) (h : f y = f x) : (l.set k y).map f = l.map f := by
  rw [List.map_set, h]
  apply List.ext_getElem?
  intro i
  rw [List.getElem?_set]
  split
  · rename_i e
    subst e
    split
    · rw [List.getElem?_map, hx]; rfl
    · rename_i h2
      rw [List.getElem?_eq_none (by simpa using h2)]
  · rfl
theorem chF_kd (l : List Ly) (wr : Bool) (b : List Int) : ∀ k o, (chF l k wr o b).1.map (fun x => (x.kd, x.off, x.levels)) = l.map (fun x => (x.kd, x.off, x.levels)) := by
  intro k
  induction k with
  | zero =>
    intro o
    unfold chF
    cases h : l[0]? with
    | none => rfl
    | some x => exact set_map _ h rfl
  | succ k ih =>
    intro o
    unfold chF
    cases h : l[k + 1]? with
    | none => rfl
    | some x =>
      dsimp only
      cases x.kd with
      | base => exact ih _
      | inner => exact ih _
      | roll =>
        dsimp only
        split
        · rfl
        · exact set_map _ h rfl
theorem map_of {α β γ : Type} {f : α → β} (g : β → γ) {l l' : List α} (h : l.map f = l'.map f) : l.map (fun x => g (f x)) = l'.map (fun x => g (f x)) := by
  have := congrArg (List.map g) h
  rwa [List.map_map, List.map_map] at this
theorem becF_kd (l : List Ly) (k : Nat) (p : List Int) : (becF l k p).map (fun x => (x.kd, x.off, x.levels)) = l.map (fun x => (x.kd, x.off, x.levels)) := by
  unfold becF
  cases h : l[0]? with
  | none => rfl
  | some x => exact set_map _ h rfl
theorem begY_kd (s : SS) (j : Nat) (x : Ly) : (begY s j x).kd = x.kd ∧ (begY s j x).off = x.off := by
  unfold begY
  split <;> exact ⟨rfl, rfl⟩
theorem deedAt_kd (s : SS) (j : Nat) (x : Ly) (hx : s.ys[j + 1]? = some x) (d : DK) : (deedAt s j x d).1.ys.map (fun x => (x.kd, x.off)) = s.ys.map (fun x => (x.kd, x.off)) := by
  have hend : (endY s j x).map (fun x => (x.kd, x.off)) = s.ys.map (fun x => (x.kd, x.off)) := set_map _ hx rfl
  have hbec : ∀ p, (becF (endY s j x) j p).map (fun x => (x.kd, x.off)) = s.ys.map (fun x => (x.kd, x.off)) := fun p => by
    rw [← hend]
    exact map_of (f := fun x : Ly => (x.kd, x.off, x.levels)) (fun p => (p.1, p.2.1)) (becF_kd _ _ _)
  cases d with
  | begin =>
    refine set_map (fun x : Ly => (x.kd, x.off)) hx ?_
    have := begY_kd s j x
    dsimp only
    rw [this.1, this.2]
  | roll =>
    rw [deedAt_roll]
    split
    · rfl
    · exact set_map (fun x : Ly => (x.kd, x.off)) hx rfl
  | fin =>
    rw [deedAt_fin]
    split
    · rfl
    · dsimp only
      unfold endF
      split
      · exact hend
      · split
        · exact hend
        · split
          · exact hbec _
          · exact hbec _
end Go.Proofs.YtfebpbflpdppiaaGreatDoor
namespace Go.Proofs.YtfebpbflpdppiaaGreatDoor
open Go Go.Sl
set_option maxRecDepth 100000
section
variable {P : Program} {σ : Env} {ty : TypeId} {pos : String} {aft : Array Edge} {gd : Option (Nat × Bool)} {x y x' : Operand} {t e : TypeId}
theorem r_slLHN {od : Option Tmp} {size bytes len cap : Nat} {z : Value} {a : Option Addr} {k j : IntKind} {lo hi : Nat} [h1 : TyU P t (.slice e)] [h2 : TyI P e size bytes z] (hx : opd σ x = some (.slice a len cap)) (hy : opd σ y = some (.int k (lo : Nat))) (hy' : opd σ x' = some (.int j (hi : Nat)))
    (hlo : lo ≤ hi) (hhi : hi ≤ cap) : RunS P ⟨od, .slice t x (some y) (some x') none, ty, pos, aft, gd⟩ σ (.slice (if cap = lo then a else a.map (·.add (lo * size))) (hi - lo) (cap - lo)) := by
  have h := r_slLH (P := P) (od := od) (t := t) (ty := ty) (pos := pos) (aft := aft) (gd := gd) hx hy hy' (by omega) (by omega)
  rwa [Int.toNat_natCast, Int.toNat_natCast] at h
end
/-- a stack, and what it holds -/
structure SV (xs : List LV) (es : List LE) (Z : HP) (la : Option Addr) (lc : Nat) (s : SS) : Prop where
  ys : xs.map (·.y) = s.ys
  ok : ∀ x ∈ xs, LVok Z x
  le : ∀ e ∈ es, LEok Z e
  top : ∀ x, xs[topF s.ys]? = some x → x.y.levels = es.map LE.lv ∧ x.la = la ∧ x.lc = lc
/-- what a step asks for -/
structure Sin (s : SS) : Prop where
  l0 : 0 < s.ys.length
  l1 : s.ys.length ≤ 7
  bs : ∀ (k : Nat) (y : Ly), s.ys[k + 1]? = some y → y.kd ≠ .base
  os : ∀ k, k < s.ys.length → oSum s.ys k ≤ 1000000
  pl : s.pts.length ≤ 1000
  ll : ∀ y ∈ s.ys, y.levels.length ≤ 500
def wCells (w : Wnt) (wa : Option Addr) (wc : Nat) : List Value := [.int .i64 w.e, .int .i64 w.n, .slice wa w.b.length wc]
/-- what stands behind a step -/
def DoR (Z I : HP) (sb lb lcap : Nat) (rest : List Value) (n : Nat) (r : SS × Wnt × Bool) (v : Value) (B : List HP) : Prop :=
  ∃ (xs' : List LV) (es' : List LE) (Z' : HP) (la' : Option Addr) (lc' : Nat) (pa' : Option Addr) (pc' : Nat) (wa : Option Addr) (wc : Nat),
    v = .tuple #[.agg (wCells r.2.1 wa wc).toArray, .bool r.2.2] ∧ Src [Z'] 1 (.slice wa r.2.1.b.length wc) r.2.1.b.length (i16s r.2.1.b) ∧ xs'.length = n ∧ SV xs' es' Z' la' lc' r.1 ∧ Ent [Z'] [Z] ∧
    B = SH sb lb lcap rest xs' es' Z' la' lc' pa' pc' r.1.pts r.1.ls r.1.vg r.1.ms ++ [I]
attribute [local irreducible] wpList Code.wp Exit.then Exit.inBlock bodyPost RunS RunV G St Ct Sat Ent At Rd GQ QL wpAny wpOp wpQuiet slP Sl.ex sep
section
variable {Z I : HP} {sb lb lcap pc lc : Nat} {pa la : Option Addr} {rest : List Value} {xs : List LV} {es : List LE} {s : SS}
theorem do_ret {n0 : Nat} {σ : Env} {m : Amb} {F : List HP} {wb N : Nat} {w : Wnt} {Z0 : HP} {wa : Option Addr} {wc : Nat} {t : Bool} {r : SS × Wnt × Bool} (h10 : lk σ 10 = some (.pointer (some ⟨wb, 0, none⟩))) (h11 : lk σ 11 = some (.bool t)) (hr : r = (s, w, t)) {lsv : Bool} (hlv : s.ls = lsv) (hsr : Src [Z] 1 (.slice wa w.b.length wc) w.b.length (i16s w.b)) (hn : xs.length = N) (hv : SV xs es Z la lc s) (he : Ent [Z] [Z0]) :
    G n0 [] σ m (blk wb (cl (wCells w wa wc) 70) :: (SH sb lb lcap rest xs es Z la lc pa pc s.pts lsv s.vg s.ms ++ [I] ++ F)) (bodyPost Tryz.prog Tryz.f29 (fin (DoR Z0 I sb lb lcap rest N r) nev m F) .ret) := by
  subst hr hn hlv
  exact e_retAT (vs := wCells w wa wc) _ rfl h10 rfl rfl (rdn_all 0 rfl) h11 ⟨xs, es, Z, la, lc, pa, pc, wa, wc, rfl, hsr, rfl, hv, he, rfl⟩ Ent.drop
set_option maxHeartbeats 4000000 in
/-- where all is lost -/
theorem doLost_c (hv : SV xs es Z la lc s) (hs : Sin s) (d : ByteArray) (off n : Int) (ho : -1099511627776 ≤ off ∧ off ≤ 65536) (hn : -1099511627776 ≤ n ∧ n ≤ 65536) (da : Option Addr) (dn dc : Nat) (hl : s.ls = true ∨ off < -262144 ∨ n < -262144 ∨ shortF s.ys = true) :
    Ct Tryz.prog 29 #[.pointer (some ⟨sb, 0, none⟩), .string d, .int .i64 off, .int .i64 n, .slice da dn dc] (SH sb lb lcap rest xs es Z la lc pa pc s.pts s.ls s.vg s.ms ++ [I])
      (DoR Z I sb lb lcap rest xs.length ({ s with ls := true }, w0, false)) nev := by
  have hxl : xs.length = s.ys.length := by rw [← hv.ys, List.length_map]
  have hB : StB xs := fun k x hx => hs.bs k x.y (by rw [← hv.ys, List.getElem?_map, hx]; rfl)
  have hsc := short_c (sb := sb) (lb := lb) (lcap := lcap) (rest := rest) (p1 := .slice pa s.pts.length pc) (p2 := .bool false) (p3 := .bool s.vg) (p4 := .bool s.ms) (xs := xs) (by have := hs.l1; omega) (by have := hs.l0; omega) hv.ok hB
  rw [hv.ys] at hsc
  have hv2 : SV xs es Z la lc { s with ls := true } := ⟨hv.ys, hv.ok, hv.le, hv.top⟩
  unfold SH
  refine Ct.of Tryz.func29 rfl Tryz.ntmps29 rfl fun m F => ?_
  cases hls : s.ls with
  | true =>
    repeat (first | refine wZ ?_ | intro b)
    exact do_ret (w := w0) (wa := none) (wc := 0) (s := { s with ls := true }) rfl rfl rfl rfl Src.nil rfl hv2 (Ent.refl _)
  | false =>
    repeat (first | refine wZ ?_ | intro b)
    rw [decide_eq_false (by omega : ¬ 262144 < off)]
    repeat (first | refine wZ ?_ | intro b)
    rw [decide_eq_false (by omega : ¬ 262144 < n)]
    repeat (first | refine wZ ?_ | intro b)
    by_cases ho2 : off < -262144
    · rw [decide_eq_true ho2]
      repeat (first | refine wZ ?_ | intro b)
      exact do_ret (w := w0) (wa := none) (wc := 0) (s := { s with ls := true }) rfl rfl rfl rfl Src.nil rfl hv2 (Ent.refl _)
    rw [decide_eq_false ho2]
    repeat (first | refine wZ ?_ | intro b)
    by_cases hn2 : n < -262144
    · rw [decide_eq_true hn2]
      repeat (first | refine wZ ?_ | intro b)
      exact do_ret (w := w0) (wa := none) (wc := 0) (s := { s with ls := true }) rfl rfl rfl rfl Src.nil rfl hv2 (Ent.refl _)
    rw [decide_eq_false hn2]
    repeat (first | refine wZ ?_ | intro b)
    have hsh : shortF s.ys = true := by
      rcases hl with h | h | h | h
      · rw [hls] at h; cases h
      · exact absurd h ho2
      · exact absurd h hn2
      · exact h
    rw [hsh] at hsc
    refine l_yes rfl rfl rfl (s_call rfl rfl hsc [1, 1] rfl ?_ (fun _ _ h => h.elim))
    rintro _ _ ⟨rfl, rfl⟩
    repeat (first | refine wZ ?_ | intro b)
    exact do_ret (w := w0) (wa := none) (wc := 0) (s := { s with ls := true }) rfl rfl rfl rfl Src.nil rfl hv2 (Ent.refl _)
end
end Go.Proofs.YtfebpbflpdppiaaGreatDoor
