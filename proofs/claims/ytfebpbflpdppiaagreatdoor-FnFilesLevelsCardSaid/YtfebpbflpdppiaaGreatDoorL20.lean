/- Whether a run is said by the reference · The reference's runs: all is small. No program · The law's own functions: copies · The law's own functions: few calls · The law's own functions: copies of calls. -/
import Derived.Test.YtfebpbflpdppiaaGreatDoorL19
namespace Go.Proofs.YtfebpbflpdppiaaGreatDoor
open Go Go.Sl
set_option maxRecDepth 100000
/-- step by step, as long as all is said -/
def saidR (s : SS) : List Stp → SS × Bool
  | [] => (s, true)
  | st :: l => if (doF s st.d st.off st.n st.bs).2.2 = true then saidR (doF s st.d st.off st.n st.bs).1 l else ((doF s st.d st.off st.n st.bs).1, false)
def saidV (r : SS × Bool) : Bool := r.2 && !r.1.ls && !r.1.vg && !r.1.ms
def saidF (ib : List UInt8) (ly : List (ByteArray × Int)) (steps : List Stp) : Bool := if ly.all okK = false then false else saidV (saidR (s0 ib ly) steps)
theorem saidR_cons (s : SS) (st : Stp) (l : List Stp) : saidR s (st :: l) = if (doF s st.d st.off st.n st.bs).2.2 = true then saidR (doF s st.d st.off st.n st.bs).1 l else ((doF s st.d st.off st.n st.bs).1, false) := by conv => lhs; unfold saidR
theorem saidR_nil (s : SS) : saidR s [] = (s, true) := by unfold saidR; rfl
/-- where the walk stands -/
structure GSt where
  i : Nat
  t : Bool
  s : SS
  xs : List LV
  es : List LE
  Z : HP
  la : Option Addr
  lc : Nat
  pa : Option Addr
  pc : Nat
attribute [local irreducible] wpList Code.wp Exit.then Exit.inBlock bodyPost RunS RunV G St Ct Sat Ent At Rd GQ QL wpAny wpOp wpQuiet slP Sl.ex sep
section
variable {I : HP}
set_option maxHeartbeats 16000000 in
theorem FilesSaid_c {Ok : Nat → SS → Prop} (hOk : OkI Ok) (ib : List UInt8) (ia : Option Addr) (ni nc : Nat) (hi : Src [I] 1 (.slice ia ni nc) ni (u8s ib)) (hni : ni ≤ 65536)
    (ly : List (ByteArray × Int)) (ya : Option Addr) (ny yc : Nat) (hy : Src [I] 2 (.slice ya ny yc) ny (ly.flatMap lyC)) (hly : ly.length = ny) (hy6 : ny ≤ 6) (hyo : ∀ y ∈ ly, 0 ≤ y.2 ∧ y.2 ≤ 65536) (hO0 : ly.all okK = true → Ok 0 (s0 ib ly))
    (ls : List (Stp × Value)) (la : Option Addr) (nl lc : Nat) (hl : Src [I] 4 (.slice la nl lc) nl (ls.flatMap stC)) (hll : ls.length = nl) (hl60 : nl ≤ 200) (hls : ∀ x ∈ ls, x.1.few ∧ Src [I] 1 x.2 x.1.bs.length (u8s x.1.bs)) :
    Ct Tryz.prog 15 #[.slice ia ni nc, .slice ya ny yc, .slice la nl lc] [I] (fun v B => v = .bool (saidF ib ly (ls.map (·.1))) ∧ B = [I]) nev := by
  refine Ct.of Tryz.func15 rfl Tryz.ntmps15 rfl fun m F => ?_
  unfold saidF
  generalize hfG : saidR (s0 ib ly) (ls.map (·.1)) = G0
  repeat (first | refine wZ ?_ | intro b)
  refine l_plain rfl (s_call rfl rfl (NewStack_c ib ia ni nc hi hni ly ya ny yc hy hly hy6 hyo) [0] rfl ?_ (fun _ _ h => h.elim))
  rintro v B (⟨hall, sb, lb, lcap, rest, xs, Z, rfl, hv, hxn, rfl⟩ | ⟨hall, rfl, rfl⟩)
  · rw [if_neg (by rw [hall]; simp)]
    unfold SH
    repeat (first | refine wZ ?_ | intro b)
    refine c_loop (α := GSt) (fun y => [(9, .int .i64 (y.i : Nat)), (8, .bool y.t), (7, .pointer (some ⟨sb, 0, none⟩)), (2, .slice la nl lc)])
      (fun y => blk sb (cl [.slice (some ⟨lb, 0, none⟩) y.xs.length lcap, .slice y.pa y.s.pts.length y.pc, .bool y.s.ls, .bool y.s.vg, .bool y.s.ms] 75) :: blk lb (cl (y.xs.flatMap lvCells ++ rest) 80) :: y.Z :: slG (.slice y.la y.es.length y.lc) 139 2 (y.es.flatMap leCells) :: slP (.slice y.pa y.s.pts.length y.pc) 2 1 (ints y.s.pts) :: I :: F)
      (fun y => y.i ≤ nl ∧ Ok y.i y.s ∧ SV y.xs y.es y.Z y.la y.lc y.s ∧ G0 = (if y.t = true then saidR y.s ((ls.map (·.1)).drop y.i) else (y.s, false))) (fun y => nl - y.i) ⟨0, true, s0 ib ly, xs, [], Z, none, 0, none, 0⟩
      ⟨Nat.zero_le _, hO0 hall, hv, hfG.symm⟩ (by exact ⟨rfl, rfl, rfl, rfl, trivial⟩) (Ent.refl _) ?_
    clear hv hxn hi xs Z
    rintro ⟨i, t, s, xs, es, Z, sa, sc, ga, gc⟩ ⟨hin, hok, hv, hfR⟩
    dsimp only at hin hok hv hfR ⊢
    have hsin := hOk.sin i s hok
    cases t with
    | false =>
      rw [if_neg (by simp)] at hfR
      rw [hfR]
      unfold saidV
      dsimp only
      repeat (first | refine wZ ?_ | intro b)
      exact e_ret1 _ rfl rfl ⟨rfl, rfl⟩ (arr_ent 5 [5] _)
    | true =>
      rw [if_pos rfl] at hfR
      by_cases hlt : i < nl
      · obtain ⟨yb, yo, rfl, hyr⟩ := src_addr hl (by omega)
        obtain ⟨x, hx⟩ : ∃ x, ls[i]? = some x := ⟨ls[i]'(by omega), List.getElem?_eq_getElem (by omega)⟩
        have hxf := hls x (List.mem_of_getElem? hx)
        obtain ⟨hfew, hxs⟩ := hxf
        have hrd : RdN [I] yb (yo + i * 4) (stC x) := rd_part (f := stC) (fun _ => rfl) hyr hx
        have hd1 : (ls.map (·.1)).drop i = x.1 :: (ls.map (·.1)).drop (i + 1) := drop_at (by rw [List.getElem?_map, hx]; rfl)
        obtain ⟨⟨d, off, n, bs⟩, slv⟩ := x
        dsimp only at hxs hd1 hfew
        obtain ⟨da, dc, rfl⟩ := src_slc hxs
        have hok2 := hOk.st i s ⟨d, off, n, bs⟩ hok (by omega) hfew
        have hdo := do_c (sb := sb) (lb := lb) (lcap := lcap) (rest := rest) (pa := ga) (pc := gc) (la := sa) (lc := sc) hv hsin d off n hfew.1 hfew.2.1 bs da dc hxs hfew.2.2 (hOk.sm _ _ hok2)
        rw [hd1, saidR_cons] at hfR
        dsimp only at hok2 hfR
        generalize doF s d off n bs = r at hok2 hdo hfR
        obtain ⟨s2, w, sd⟩ := r
        dsimp only at hok2 hdo hfR
        unfold SH at hdo
        repeat (first | refine wY ?_ | intro b)
        rw [decide_eq_true (by omega : (i : Int) < (nl : Int))]
        repeat (first | refine wY ?_ | intro b)
        refine h_any [I] 26 rfl ?_
        have hE : Ent (blk sb (cl [.slice (some ⟨lb, 0, none⟩) xs.length lcap, .slice ga s.pts.length gc, .bool s.ls, .bool s.vg, .bool s.ms] 75) :: blk lb (cl (xs.flatMap lvCells ++ rest) 80) :: Z :: slG (.slice sa es.length sc) 139 2 (es.flatMap leCells) :: slP (.slice ga s.pts.length gc) 2 1 (ints s.pts) :: I :: F) [I] := Ent.pick1 (i := 5) rfl
        refine h_take hE 0 rfl (by kernel_rfl) (by kernel_rfl) (by kernel_rfl) rfl rfl rfl pQ rV ?_
        refine h_take hE 1 rfl (by kernel_rfl) (by kernel_rfl) (by kernel_rfl) rfl rfl rfl pQ rV ?_
        refine h_take hE 2 rfl (by kernel_rfl) (by kernel_rfl) (by kernel_rfl) rfl rfl rfl pQ rV ?_
        refine h_take (v := .pointer (some ⟨yb, yo + i * 4, none⟩)) hE 3 rfl (by kernel_rfl) (by kernel_rfl) (by kernel_rfl) rfl rfl rfl pQ (RunS.v (r_index (i := i) rfl rfl rfl hlt)) ?_
        refine h_take hE 4 rfl (by kernel_rfl) (by kernel_rfl) (by kernel_rfl) rfl rfl rfl pQ rV ?_
        refine h_take (v := .string d) hE 5 rfl (by kernel_rfl) (by kernel_rfl) (by kernel_rfl) rfl rfl rfl pQ (r_load rfl rfl (hrd.get (j := 0) rfl)) ?_
        refine h_take hE 6 rfl (by kernel_rfl) (by kernel_rfl) (by kernel_rfl) rfl rfl rfl pQ rV ?_
        refine h_take hE 7 rfl (by kernel_rfl) (by kernel_rfl) (by kernel_rfl) rfl rfl rfl pQ rV ?_
        refine h_take (v := .pointer (some ⟨yb, yo + i * 4, none⟩)) hE 8 rfl (by kernel_rfl) (by kernel_rfl) (by kernel_rfl) rfl rfl rfl pQ (RunS.v (r_index (i := i) rfl rfl rfl hlt)) ?_
        refine h_take hE 9 rfl (by kernel_rfl) (by kernel_rfl) (by kernel_rfl) rfl rfl rfl pQ rV ?_
        refine h_take (v := .int .i64 off) hE 10 rfl (by kernel_rfl) (by kernel_rfl) (by kernel_rfl) rfl rfl rfl pQ (r_load rfl rfl (hrd.get (j := 1) rfl)) ?_
        refine h_take hE 11 rfl (by kernel_rfl) (by kernel_rfl) (by kernel_rfl) rfl rfl rfl pQ rV ?_
        refine h_take hE 12 rfl (by kernel_rfl) (by kernel_rfl) (by kernel_rfl) rfl rfl rfl pQ rV ?_
        refine h_take (v := .pointer (some ⟨yb, yo + i * 4, none⟩)) hE 13 rfl (by kernel_rfl) (by kernel_rfl) (by kernel_rfl) rfl rfl rfl pQ (RunS.v (r_index (i := i) rfl rfl rfl hlt)) ?_
        refine h_take hE 14 rfl (by kernel_rfl) (by kernel_rfl) (by kernel_rfl) rfl rfl rfl pQ rV ?_
        refine h_take (v := .int .i64 n) hE 15 rfl (by kernel_rfl) (by kernel_rfl) (by kernel_rfl) rfl rfl rfl pQ (r_load rfl rfl (hrd.get (j := 2) rfl)) ?_
        refine h_take hE 16 rfl (by kernel_rfl) (by kernel_rfl) (by kernel_rfl) rfl rfl rfl pQ rV ?_
        refine h_take hE 17 rfl (by kernel_rfl) (by kernel_rfl) (by kernel_rfl) rfl rfl rfl pQ rV ?_
        refine h_take (v := .pointer (some ⟨yb, yo + i * 4, none⟩)) hE 18 rfl (by kernel_rfl) (by kernel_rfl) (by kernel_rfl) rfl rfl rfl pQ (RunS.v (r_index (i := i) rfl rfl rfl hlt)) ?_
        refine h_take hE 19 rfl (by kernel_rfl) (by kernel_rfl) (by kernel_rfl) rfl rfl rfl pQ rV ?_
        refine h_take (v := .slice da bs.length dc) hE 20 rfl (by kernel_rfl) (by kernel_rfl) (by kernel_rfl) rfl rfl rfl pQ (r_load rfl rfl (hrd.get (j := 3) rfl)) ?_
        refine h_one 21 (by kernel_rfl) rfl rfl ?_
        refine s_call rfl rfl hdo [0, 0, 0, 0, 0, 0] rfl ?_ (fun _ _ h => h.elim)
        rintro _ _ ⟨xs', es', Z', sa', sc', ga', gc', wa, wc, rfl, hws, hlen, hv', hent, rfl⟩
        unfold SH
        dsimp only at hws hv' ⊢
        have hE2 : Ent (blk sb (cl [.slice (some ⟨lb, 0, none⟩) xs'.length lcap, .slice ga' s2.pts.length gc', .bool s2.ls, .bool s2.vg, .bool s2.ms] 75) :: blk lb (cl (xs'.flatMap lvCells ++ rest) 80) :: Z' :: slG (.slice sa' es'.length sc') 139 2 (es'.flatMap leCells) :: slP (.slice ga' s2.pts.length gc') 2 1 (ints s2.pts) :: I :: F) [I] := Ent.pick1 (i := 5) rfl
        refine h_then hE2 ?_
        refine h_take hE2 22 rfl (by kernel_rfl) (by kernel_rfl) (by kernel_rfl) rfl rfl rfl pQ rV ?_
        refine h_take hE2 23 rfl (by kernel_rfl) (by kernel_rfl) (by kernel_rfl) rfl rfl rfl pQ rV ?_
        refine h_take hE2 24 rfl (by kernel_rfl) (by kernel_rfl) (by kernel_rfl) rfl rfl rfl pQ rV ?_
        refine h_take hE2 25 rfl (by kernel_rfl) (by kernel_rfl) (by kernel_rfl) rfl rfl rfl pQ rV ?_
        refine h_done (by kernel_rfl) ?_
        repeat (first | refine wZ ?_ | intro b)
        refine at_intro ⟨i + 1, sd, s2, xs', es', Z', sa', sc', ga', gc'⟩ ⟨⟨hlt, hok2, hv', ?_⟩, by dsimp only; omega⟩ ⟨rfl, rfl, rfl, rfl, trivial⟩ (Ent.refl _)
        dsimp only
        exact hfR
      · rw [List.drop_eq_nil_of_le (by rw [List.length_map]; omega : (ls.map (·.1)).length ≤ i), saidR_nil] at hfR
        repeat (first | refine wZ ?_ | intro b)
        rw [decide_eq_false (by omega : ¬ (i : Int) < (nl : Int))]
        rw [hfR]
        unfold saidV
        dsimp only
        repeat (first | refine wZ ?_ | intro b)
        cases hl1 : s.ls with
        | true =>
          repeat (first | refine wZ ?_ | intro b)
          exact e_ret1 _ rfl rfl ⟨rfl, rfl⟩ (arr_ent 5 [5] _)
        | false =>
          repeat (first | refine wZ ?_ | intro b)
          cases hl2 : s.vg with
          | true =>
            repeat (first | refine wZ ?_ | intro b)
            exact e_ret1 _ rfl rfl ⟨rfl, rfl⟩ (arr_ent 5 [5] _)
          | false =>
            repeat (first | refine wZ ?_ | intro b)
            cases hl3 : s.ms with
            | true =>
              repeat (first | refine wZ ?_ | intro b)
              exact e_ret1 _ rfl rfl ⟨rfl, rfl⟩ (arr_ent 5 [5] _)
            | false =>
              repeat (first | refine wZ ?_ | intro b)
              exact e_ret1 _ rfl rfl ⟨rfl, rfl⟩ (arr_ent 5 [5] _)
  · rw [if_pos hall]
    repeat (first | refine wZ ?_ | intro b)
    refine c_loop (α := Unit) (fun _ => [(8, .bool false)]) (fun _ => I :: F) (fun _ => True) (fun _ => 0) () trivial (by exact ⟨rfl, trivial⟩) (Ent.refl _) ?_
    intro _ _
    repeat (first | refine wZ ?_ | intro b)
    exact e_ret1 _ rfl rfl ⟨rfl, rfl⟩ (Ent.refl _)
end
end Go.Proofs.YtfebpbflpdppiaaGreatDoor
namespace Go.Proofs.YtfebpbflpdppiaaGreatDoor
open Go Go.Sl
set_option maxRecDepth 100000
/-- a layer of a run: what is small -/
structure Lok (n T : Nat) (y : Ly) : Prop where
  b : y.bytes.length + T ≤ 600000
  w : y.wrote.length ≤ 600000
  sh : y.shadow ≤ 600000
  n : y.levels.length ≤ n
  l : ∀ e ∈ y.levels, e.1.length + T ≤ 600000 ∧ e.2.length ≤ 600000
structure Sok (n : Nat) (s : SS) : Prop where
  l0 : 0 < s.ys.length
  l1 : s.ys.length ≤ 7
  bs : ∀ (k : Nat) (y : Ly), s.ys[k + 1]? = some y → y.kd ≠ .base
  of : ∀ y ∈ s.ys, y.off ≤ 65536
  r0 : ∀ y ∈ s.ys, y.kd = .roll → y.off = 0
  ok : ∀ (k : Nat) (y : Ly), s.ys[k]? = some y → Lok n (oSum s.ys k) y
  p : s.pts.length ≤ n
theorem oSum_le {l : List Ly} (h : ∀ y ∈ l, y.off ≤ 65536) : ∀ k, oSum l k ≤ 65536 * k
  | 0 => Nat.le_refl _
  | k + 1 => by
    have ih := oSum_le h k
    unfold oSum
    cases hx : l[k + 1]? with
    | none => dsimp only; omega
    | some x => dsimp only; have := h x (List.mem_of_getElem? hx); omega
theorem oSum_congr {l l' : List Ly} (h : l.map (·.off) = l'.map (·.off)) : ∀ k, oSum l k = oSum l' k
  | 0 => rfl
  | k + 1 => by
    have ih := oSum_congr h k
    have e : (l[k + 1]?).map (·.off) = (l'[k + 1]?).map (·.off) := by rw [← List.getElem?_map, ← List.getElem?_map, h]
    unfold oSum
    rw [ih]
    cases h1 : l[k + 1]? with
    | none =>
      rw [h1] at e
      cases h2 : l'[k + 1]? with
      | none => rfl
      | some y => rw [h2] at e; cases e
    | some x =>
      rw [h1] at e
      cases h2 : l'[k + 1]? with
      | none => rw [h2] at e; cases e
      | some y =>
        rw [h2] at e
        simp only [Option.map_some, Option.some.injEq] at e
        dsimp only
        rw [e]
theorem oSum_step (l : List Ly) (k : Nat) : oSum l k ≤ oSum l (k + 1) := by
  conv => rhs; unfold oSum
  exact Nat.le_add_right _ _
theorem oSum_mono (l : List Ly) {j k : Nat} (h : j ≤ k) : oSum l j ≤ oSum l k := by
  induction h with
  | refl => exact Nat.le_refl _
  | step h ih => exact Nat.le_trans ih (oSum_step l _)
theorem Lok.up {n T : Nat} {y : Ly} (h : Lok n T y) : Lok (n + 1) T y := ⟨h.b, h.w, h.sh, Nat.le_succ_of_le h.n, h.l⟩
theorem Sok.up {n : Nat} {s : SS} (h : Sok n s) : Sok (n + 1) s := ⟨h.l0, h.l1, h.bs, h.of, h.r0, fun k y hy => (h.ok k y hy).up, Nat.le_succ_of_le h.p⟩
theorem Sok.oS {n : Nat} {s : SS} (h : Sok n s) (k : Nat) (hk : k < s.ys.length) : oSum s.ys k ≤ 393216 := by
  have := oSum_le h.of k
  have := h.l1
  omega
theorem Sok.same {n : Nat} {s s' : SS} (h : Sok n s) (hs : s'.ys = s.ys) (hp : s'.pts.length ≤ n + 1) : Sok (n + 1) s' := by
  have := h.up
  obtain ⟨ys, pts, a, c, d⟩ := s'
  dsimp only at hs hp
  subst hs
  exact ⟨this.l0, this.l1, this.bs, this.of, this.r0, this.ok, hp⟩
/-- one layer is changed -/
theorem Sok.set {n : Nat} {s s' : SS} (h : Sok n s) {j : Nat} {y y' : Ly} (hy : s.ys[j]? = some y) (hs : s'.ys = s.ys.set j y') (hk : y'.kd = y.kd) (ho : y'.off = y.off) (hl : Lok (n + 1) (oSum s.ys j) y') (hp : s'.pts.length ≤ n + 1) : Sok (n + 1) s' := by
  have hkk := hk
  have hjl : j < s.ys.length := (List.getElem?_eq_some_iff.1 hy).1
  have hm : s'.ys.map (·.off) = s.ys.map (·.off) := by rw [hs]; exact set_map (fun x : Ly => x.off) hy ho
  have hget : ∀ (k : Nat) (z : Ly), s'.ys[k]? = some z → (k = j ∧ z = y') ∨ s.ys[k]? = some z := fun k z hz => by
    rw [hs, List.getElem?_set] at hz
    by_cases hkj : j = k
    · rw [if_pos hkj, if_pos hjl] at hz
      exact .inl ⟨hkj.symm, (Option.some.inj hz).symm⟩
    · rw [if_neg hkj] at hz
      exact .inr hz
  refine ⟨by rw [hs, List.length_set]; exact h.l0, by rw [hs, List.length_set]; exact h.l1, fun k z hz => ?_, fun z hz => ?_, fun z hz => ?_, fun k z hz => ?_, hp⟩
  · rcases hget _ _ hz with ⟨e1, rfl⟩ | h2
    · rw [hk]
      exact h.bs k y (by rw [e1]; exact hy)
    · exact h.bs k z h2
  · obtain ⟨k, hk⟩ := List.mem_iff_getElem?.1 hz
    rcases hget _ _ hk with ⟨_, rfl⟩ | h2
    · rw [ho]
      exact h.of y (List.mem_of_getElem? hy)
    · exact h.of z (List.mem_of_getElem? h2)
  · obtain ⟨k, hk⟩ := List.mem_iff_getElem?.1 hz
    rcases hget _ _ hk with ⟨_, rfl⟩ | h2
    · intro hr
      rw [ho]
      exact h.r0 y (List.mem_of_getElem? hy) (by rw [← hr, hkk])
    · exact h.r0 z (List.mem_of_getElem? h2)
  · rw [oSum_congr hm]
    rcases hget _ _ hz with ⟨rfl, rfl⟩ | h2
    · exact hl
    · exact (h.ok k z h2).up
/-- a change: at one layer, or none -/
theorem chF_shape (l : List Ly) (wr : Bool) (b : List Int) : ∀ k o, k < l.length → ((chF l k wr o b).1 = l ∧ (chF l k wr o b).2.1 = false) ∨ ∃ j y y' o', l[j]? = some y ∧ (chF l k wr o b).1 = l.set j y' ∧ j ≤ k ∧ o' + oSum l j = o + oSum l k ∧ ((j = 0 ∧ y' = chB0 y wr o' b) ∨ (y.kd = .roll ∧ y' = chL y wr o' b)) := by
  intro k
  induction k with
  | zero =>
    intro o hk
    obtain ⟨x, hx⟩ : ∃ x, l[0]? = some x := ⟨l[0], List.getElem?_eq_getElem hk⟩
    refine .inr ⟨0, x, chB0 x wr o b, o, hx, ?_, Nat.le_refl _, rfl, .inl ⟨rfl, rfl⟩⟩
    unfold chF
    rw [hx]
  | succ k ih =>
    intro o hk
    obtain ⟨x, hx⟩ : ∃ x, l[k + 1]? = some x := ⟨l[k + 1], List.getElem?_eq_getElem hk⟩
    have hos : oSum l (k + 1) = oSum l k + x.off := by
      conv => lhs; unfold oSum
      rw [hx]
    have hin : x.kd ≠ .roll → (chF l (k + 1) wr o b) = chF l k wr (o + x.off) b := fun h => by
      conv => lhs; unfold chF
      rw [hx]
      cases hk : x.kd with
      | base => simp only [hk]
      | inner => simp only [hk]
      | roll => exact absurd hk h
    by_cases hr : x.kd = .roll
    · by_cases hl : x.levels = []
      · left
        unfold chF
        rw [hx]
        simp only [hr, hl]
        exact ⟨trivial, trivial⟩
      · refine .inr ⟨k + 1, x, chL x wr o b, o, hx, ?_, Nat.le_refl _, rfl, .inr ⟨hr, rfl⟩⟩
        unfold chF
        rw [hx]
        simp only [hr]
    · rw [hin hr]
      rcases ih (o + x.off) (by omega) with h | ⟨j, y, y', o', h1, h2, h3, h4, h5⟩
      · exact .inl h
      · exact .inr ⟨j, y, y', o', h1, h2, by omega, by omega, h5⟩
theorem view_len {n : Nat} {s : SS} (h : Sok n s) : ∀ k, k < s.ys.length → (viewF s.ys k).length + oSum s.ys k ≤ 600000
  | 0, hk => by
    obtain ⟨x, hx⟩ : ∃ x, s.ys[0]? = some x := ⟨s.ys[0], List.getElem?_eq_getElem hk⟩
    have := (h.ok 0 x hx).b
    unfold viewF
    rw [hx]
    exact this
  | k + 1, hk => by
    have ih := view_len h k (by omega)
    obtain ⟨x, hx⟩ : ∃ x, s.ys[k + 1]? = some x := ⟨s.ys[k + 1], List.getElem?_eq_getElem hk⟩
    have hl := h.ok (k + 1) x hx
    have ho := h.oS (k + 1) hk
    have hv : viewF s.ys (k + 1) = vwAt x (viewF s.ys k) := by
      conv => lhs; unfold viewF
      rw [hx]
    have hos : oSum s.ys (k + 1) = oSum s.ys k + x.off := by
      conv => lhs; unfold oSum
      rw [hx]
    rw [hv]
    unfold vwAt
    cases hkd : x.kd with
    | roll =>
      have h0 := h.r0 x (List.mem_of_getElem? hx) hkd
      cases hlv : x.levels with
      | nil =>
        dsimp only
        omega
      | cons e es =>
        dsimp only
        exact hl.b
    | inner =>
      dsimp only
      rw [List.length_drop]
      omega
    | base =>
      dsimp only
      rw [List.length_drop]
      omega
theorem chL_len {n T : Nat} {y : Ly} (h : Lok n T y) (hT : T ≤ 393216) (wr : Bool) (o : Nat) (b : List Int) (ho : o + T + b.length ≤ 600000) : Lok n T (chL y wr o b) := by
  obtain ⟨h1, h2, h3, h4, h5⟩ := h
  have hsh : (if o < y.bytes.length then max y.shadow y.bytes.length else y.shadow) ≤ 600000 := by split <;> omega
  cases wr with
  | true =>
    refine ⟨?_, ?_, h3, h4, h5⟩
    · show (wrF (grF y.bytes y.shadow (o + b.length)) o b).length + T ≤ 600000
      rw [wrF_length, grF_length]
      omega
    · show (mkF y.wrote o b.length).length ≤ 600000
      rw [mkF_length]
      omega
  | false =>
    refine ⟨?_, ?_, hsh, h4, h5⟩
    · show (cutF (grF y.bytes _ o) o).length + T ≤ 600000
      rw [cutF_length]
      omega
    · show (y.wrote.take o).length ≤ 600000
      rw [List.length_take]
      omega
theorem chB0_len {n T : Nat} {y : Ly} (h : Lok n T y) (wr : Bool) (o : Nat) (b : List Int) (ho : o + T + b.length ≤ 600000) : Lok n T (chB0 y wr o b) := by
  obtain ⟨h1, h2, h3, h4, h5⟩ := h
  cases wr with
  | true =>
    refine ⟨?_, h2, h3, h4, h5⟩
    show (wrF y.bytes o b).length + T ≤ 600000
    rw [wrF_length]
    omega
  | false =>
    refine ⟨?_, h2, h3, h4, h5⟩
    show (cutF y.bytes o).length + T ≤ 600000
    rw [cutF_length]
    omega
theorem chS_ok {n : Nat} {s : SS} (h : Sok n s) (wr : Bool) (o : Nat) (b : List Int) (ho : o + b.length ≤ 196608) : Sok (n + 1) (chS s wr o b) := by
  have hl0 := h.l0
  have hK : lastK s < s.ys.length := by unfold lastK; omega
  have hos := h.oS _ hK
  rcases chF_shape s.ys wr b (lastK s) o hK with ⟨h1, _⟩ | ⟨j, y, y', o', h1, h2, h3, h4, h5⟩
  · exact h.same (s' := chS s wr o b) h1 (Nat.le_succ_of_le h.p)
  · have hm := oSum_mono s.ys h3
    have hyl := (h.ok j y h1).up
    refine h.set h1 (s' := chS s wr o b) h2 ?_ ?_ ?_ (Nat.le_succ_of_le h.p)
    · rcases h5 with ⟨_, rfl⟩ | ⟨_, rfl⟩ <;> rfl
    · rcases h5 with ⟨_, rfl⟩ | ⟨_, rfl⟩ <;> rfl
    · rcases h5 with ⟨_, rfl⟩ | ⟨_, rfl⟩
      · exact chB0_len hyl wr o' b (by omega)
      · exact chL_len hyl (by omega) wr o' b (by omega)
theorem endY_ok {n : Nat} {s : SS} (h : Sok n s) (j : Nat) (x : Ly) (hx : s.ys[j + 1]? = some x) : Sok (n + 1) { s with ys := endY s j x } := by
  obtain ⟨h1, h2, h3, h4, h5⟩ := h.ok (j + 1) x hx
  exact h.set hx rfl rfl rfl ⟨h1, h2, h3, by show x.levels.dropLast.length ≤ _; rw [List.length_dropLast]; omega, fun e he => h5 e (List.dropLast_subset _ he)⟩ (Nat.le_succ_of_le h.p)
theorem bec_ok {n : Nat} {s : SS} (h : Sok n s) (j : Nat) (hj : j < s.ys.length) (p : List Int) (hp : p.length + oSum s.ys j ≤ 600000) {s' : SS} (hs : s'.ys = becF s.ys j p) (hq : s'.pts.length ≤ n + 1) : Sok (n + 1) s' := by
  obtain ⟨x, hx⟩ : ∃ x, s.ys[0]? = some x := ⟨s.ys[0]'(by omega), List.getElem?_eq_getElem (by omega)⟩
  obtain ⟨h1, h2, h3, h4, h5⟩ := h.ok 0 x hx
  have hb : becF s.ys j p = s.ys.set 0 { x with bytes := cutF x.bytes (oSum s.ys j) ++ p } := by unfold becF; rw [hx]
  rw [hb] at hs
  refine h.set hx hs rfl rfl ⟨?_, h2, h3, by show x.levels.length ≤ _; omega, h5⟩ hq
  show (cutF x.bytes (oSum s.ys j) ++ p).length + 0 ≤ 600000
  rw [List.length_append, cutF_length]
  omega
theorem deed_ok {n : Nat} {s : SS} (h : Sok n s) (j : Nat) (x : Ly) (hx : s.ys[j + 1]? = some x) (hkd : x.kd = .roll) (d : DK) : Sok (n + 2) (deedAt s j x d).1 := by
  have hjl : j + 1 < s.ys.length := (List.getElem?_eq_some_iff.1 hx).1
  have hl := h.ok (j + 1) x hx
  have hv := view_len h j (by omega)
  have ho := h.oS (j + 1) hjl
  have hstep := oSum_step s.ys j
  have h0 := h.r0 x (List.mem_of_getElem? hx) hkd
  have hos : oSum s.ys (j + 1) = oSum s.ys j + x.off := by
    conv => lhs; unfold oSum
    rw [hx]
  have hpu := Nat.le_succ_of_le h.p
  obtain ⟨h1, h2, h3, h4, h5⟩ := hl
  have hE := endY_ok h j x hx
  cases d with
  | begin =>
    refine Sok.up (h.set hx rfl (begY_kd s j x).1 (begY_kd s j x).2 ?_ hpu)
    unfold begY
    split
    · refine ⟨by dsimp only; omega, Nat.zero_le _, Nat.zero_le _, by simp; omega, fun e he => ?_⟩
      rcases List.mem_append.1 he with he | he
      · exact h5 e he
      · simp only [List.mem_singleton] at he
        subst he
        exact ⟨by dsimp only; omega, Nat.zero_le _⟩
    · refine ⟨h1, h2, h3, by simp; omega, fun e he => ?_⟩
      rcases List.mem_append.1 he with he | he
      · exact h5 e he
      · simp only [List.mem_singleton] at he
        subst he
        exact ⟨h1, h2⟩
  | roll =>
    rw [deedAt_roll]
    split
    · exact h.up.up
    · rename_i hne
      have hlm : lastL x ∈ x.levels := by
        unfold lastL
        rw [List.getLast?_eq_some_getLast hne]
        exact List.getLast_mem hne
      obtain ⟨q1, q2⟩ := h5 _ hlm
      exact Sok.up (h.set (s' := rollF s j x) hx rfl rfl rfl ⟨q1, q2, h3, by show x.levels.dropLast.length ≤ _; rw [List.length_dropLast]; omega, fun e he => h5 e (List.dropLast_subset _ he)⟩ hpu)
  | fin =>
    rw [deedAt_fin]
    split
    · exact h.up.up
    · have hoe : oSum (endY s j x) j = oSum s.ys j := by
        refine oSum_congr ?_ j
        unfold endY
        exact set_map (fun x : Ly => x.off) hx rfl
      have hlen : j < (endY s j x).length := by unfold endY; rw [List.length_set]; omega
      dsimp only
      unfold endF
      split
      · exact hE.up
      · split
        · exact hE.same rfl (Nat.le_succ_of_le hpu)
        · split
          · exact bec_ok hE j hlen x.bytes (by show _ + oSum (endY s j x) j ≤ _; rw [hoe]; omega) rfl (Nat.le_succ_of_le hpu)
          · refine bec_ok hE j hlen x.bytes (by show _ + oSum (endY s j x) j ≤ _; rw [hoe]; omega) rfl ?_
            have := h.p
            dsimp only
            split
            · rw [List.length_append, List.length_singleton]; omega
            · omega
theorem doF_ok {n : Nat} {s : SS} (h : Sok n s) (x : Stp) (hx : x.few) : Sok (n + 2) (doF s x.d x.off x.n x.bs).1 ∧ (doF s x.d x.off x.n x.bs).2.1.b.length ≤ 600000 := by
  obtain ⟨⟨_, ho⟩, ⟨_, hn⟩, hb⟩ := hx
  have hs : Sok (n + 2) s := h.up.up
  have hl : ∀ v g m, Sok (n + 2) (⟨s.ys, s.pts, v, g, m⟩ : SS) := fun v g m => (h.same (s' := ⟨s.ys, s.pts, v, g, m⟩) rfl (Nat.le_succ_of_le h.p)).up
  have h0 : (0 : Nat) ≤ 600000 := Nat.zero_le _
  have hde : ∀ d, Sok (n + 2) (doDe s d).1 ∧ (doDe s d).2.1.b.length ≤ 600000 := fun d => by
    unfold doDe
    split
    · exact ⟨hs, h0⟩
    · rename_i ht
      refine ⟨?_, h0⟩
      dsimp only
      unfold deedT
      cases hx : s.ys[topF s.ys]? with
      | none => exact hs
      | some y =>
        obtain ⟨j, hj⟩ : ∃ j, topF s.ys = j + 1 := ⟨topF s.ys - 1, by omega⟩
        have hk := topF_isR (by omega) hx
        dsimp only
        rw [hj] at hx ⊢
        rw [Nat.add_sub_cancel]
        exact deed_ok h j y hx hk d
  unfold doF
  split
  · exact ⟨hl _ _ _, h0⟩
  split
  · unfold doW
    split
    · split
      · exact ⟨hs, h0⟩
      · exact ⟨hs, h0⟩
    · split
      · exact ⟨hl _ _ _, h0⟩
      · exact ⟨(chS_ok h true _ _ (by rw [kn_length]; omega)).up, h0⟩
  split
  · unfold doRd
    split
    · exact ⟨hl _ _ _, h0⟩
    · split
      · exact ⟨hs, h0⟩
      · refine ⟨hs, ?_⟩
        have hl0 := h.l0
        have hv := view_len h (lastK s) (by unfold lastK; omega)
        dsimp only
        rw [List.length_drop, List.length_take]
        omega
  split
  · exact ⟨hs, h0⟩
  split
  · unfold doTr
    split
    · split
      · exact ⟨hl _ _ _, h0⟩
      · exact ⟨hs, h0⟩
    · exact ⟨(chS_ok h false _ _ (by simp; omega)).up, h0⟩
  split
  · unfold doPu
    split
    · exact ⟨hs, h0⟩
    · split
      · exact ⟨hl _ _ _, h0⟩
      · split <;> exact ⟨hs, h0⟩
  split
  · exact hde _
  split
  · exact hde _
  split
  · exact hde _
  split
  · exact ⟨hs, h0⟩
  · exact ⟨hl _ _ _, h0⟩
def OkS (i : Nat) (s : SS) : Prop := i ≤ 200 ∧ Sok (2 * i) s
theorem okS : OkI OkS where
  sin i s h := by
    obtain ⟨hi, h⟩ := h
    refine ⟨h.l0, h.l1, h.bs, fun k hk => by have := h.oS k hk; omega, by have := h.p; omega, fun y hy => ?_⟩
    obtain ⟨k, hk⟩ := List.mem_iff_getElem?.1 hy
    have := (h.ok k y hk).n
    omega
  sm i s h y hy := by
    obtain ⟨hi, h⟩ := h
    obtain ⟨k, hk⟩ := List.mem_iff_getElem?.1 hy
    have hk2 := h.ok k y hk
    have := h.of y hy
    exact ⟨by have := hk2.b; omega, by have := hk2.w; omega, by omega, by have := hk2.sh; omega, by have := hk2.n; omega⟩
  st i s x h hi hx := ⟨by omega, (doF_ok h.2 x hx).1⟩
  w i s x h hi hx := by
    have := (doF_ok h.2 x hx).2
    omega
theorem okS0 (ib : List UInt8) (ly : List (ByteArray × Int)) (hi : ib.length ≤ 65536) (hl : ly.length ≤ 6) (ho : ∀ y ∈ ly, 0 ≤ y.2 ∧ y.2 ≤ 65536) : OkS 0 (s0 ib ly) := by
  have hoff : ∀ y ∈ (s0 ib ly).ys, y.off ≤ 65536 := fun y hy => by
    unfold s0 at hy
    rcases List.mem_cons.1 hy with rfl | hy
    · exact Nat.zero_le _
    · obtain ⟨z, hz, rfl⟩ := List.mem_map.1 hy
      have := ho z hz
      unfold lyY
      split <;> dsimp only <;> omega
  refine ⟨by omega, by simp [s0], by simp [s0]; omega, fun k y hy => ?_, fun y hy => ?_, fun y hy => ?_, fun k y hy => ?_, by simp [s0]⟩
  · unfold s0 at hy
    simp only [List.getElem?_cons_succ, List.getElem?_map] at hy
    cases h1 : ly[k]? with
    | none => rw [h1] at hy; cases hy
    | some z =>
      rw [h1] at hy
      cases hy
      unfold lyY
      split <;> exact fun h => by cases h
  · exact hoff y hy
  · unfold s0 at hy
    rcases List.mem_cons.1 hy with rfl | hy
    · exact fun _ => rfl
    · obtain ⟨z, hz, rfl⟩ := List.mem_map.1 hy
      unfold lyY
      split
      · exact fun h => by cases h
      · exact fun _ => rfl
  · have hoS : oSum (s0 ib ly).ys k ≤ 600000 := by
      have h1 := oSum_le hoff k
      have h2 := (List.getElem?_eq_some_iff.1 hy).1
      have h3 : (s0 ib ly).ys.length = ly.length + 1 := by simp [s0]
      omega
    unfold s0 at hy
    cases k with
    | zero =>
      simp only [List.getElem?_cons_zero, Option.some.injEq] at hy
      subst hy
      exact ⟨by show (kn ib).length + 0 ≤ 600000; rw [kn_length]; omega, Nat.zero_le _, Nat.zero_le _, Nat.zero_le _, fun e he => by simp at he⟩
    | succ k =>
      simp only [List.getElem?_cons_succ, List.getElem?_map] at hy
      cases h1 : ly[k]? with
      | none => rw [h1] at hy; cases hy
      | some z =>
        rw [h1] at hy
        cases hy
        obtain ⟨q1, q2, q3, q4⟩ := lyY_lev z
        refine ⟨by rw [q2]; show 0 + _ ≤ 600000; omega, by rw [q3]; exact Nat.zero_le _, by rw [q4]; exact Nat.zero_le _, by rw [q1]; exact Nat.zero_le _, fun e he => by rw [q1] at he; simp at he⟩
end Go.Proofs.YtfebpbflpdppiaaGreatDoor
namespace Go.Proofs.YtfebpbflpdppiaaGreatDoor
open Go Go.Sl
set_option maxRecDepth 100000
attribute [local irreducible] wpList Code.wp Exit.then Exit.inBlock bodyPost RunS RunV G St Ct Sat Ent At Rd GQ QL wpAny wpOp wpQuiet slP Sl.ex sep
section
variable {I : HP}
theorem copied_c (bs : List UInt8) (a : Option Addr) (n c : Nat) (hs : Src [I] 1 (.slice a n c) n (u8s bs)) (hn : n ≤ 10000000) :
    Ct Tryz.prog 10 #[.slice a n c] [I] (fun v B => ∃ a' c', v = .slice a' n c' ∧ B = [I, slP (.slice a' n c') 5 1 (u8s bs)]) nev := by
  refine Ct.of Tryz.func10 rfl Tryz.ntmps10 rfl fun m F => ?_
  repeat (first | refine wZ ?_ | intro b)
  refine G.ent (L' := slP (.slice none 0 0) 5 1 [] :: I :: F) slP_nil ?_
  refine l_plain rfl (s_append (i := 0) rfl rfl rfl (RE hs 1 rfl) rfl rfl rfl (u8s_one _) (by omega) (by simp only [maxLen]; omega) rfl ?_)
  intro a1 c1
  rw [List.nil_append, Nat.zero_add]
  repeat (first | refine wZ ?_ | intro b)
  exact e_ret1 _ rfl rfl ⟨a1, c1, rfl, rfl⟩ (arr_ent 0 [1, 0] _)
theorem zz4_c (d : ByteArray) (o n : Int) (a : Option Addr) (k c : Nat) : Ct Tryz.prog 18 #[.agg #[.string d, .int .i64 o, .int .i64 n, .slice a k c]] [] (fun v B => (∃ q, v = .bool q) ∧ B = []) nev := by
  refine Ct.of Tryz.func18 rfl Tryz.ntmps18 rfl fun m F => ?_
  repeat (first | refine wZ ?_ | intro b)
  by_cases hbig : 2147483647 < (d.size : Int)
  · rw [decide_eq_true hbig]
    repeat (first | refine wZ ?_ | intro b)
    exact e_ret1 _ rfl rfl ⟨⟨_, rfl⟩, rfl⟩ Ent.drop
  rw [decide_eq_false hbig]
  repeat (first | refine wZ ?_ | intro b)
  by_cases hb2 : 2147483647 < (k : Int)
  · rw [decide_eq_true hb2]
    repeat (first | refine wZ ?_ | intro b)
    exact e_ret1 _ rfl rfl ⟨⟨_, rfl⟩, rfl⟩ Ent.drop
  · rw [decide_eq_false hb2]
    repeat (first | refine wZ ?_ | intro b)
    exact e_ret1 _ rfl rfl ⟨⟨_, rfl⟩, rfl⟩ Ent.drop
set_option maxHeartbeats 4000000 in
theorem zz3_c (ly : List (Stp × Value)) (hls : ∀ x ∈ ly, ∃ a k c, x.2 = .slice a k c) (ya : Option Addr) (ny yc : Nat) (hy : Src [I] 4 (.slice ya ny yc) ny (ly.flatMap stC)) (hly : ly.length = ny) : Ct Tryz.prog 6 #[.slice ya ny yc] [I] (fun v B => (∃ q, v = .bool q ∧ (q = true → ny ≤ 2147483647)) ∧ B = [I]) nev := by
  refine Ct.of Tryz.func6 rfl Tryz.ntmps6 rfl fun m F => ?_
  repeat (first | refine wZ ?_ | intro b)
  by_cases hbig : 2147483647 < (ny : Int)
  · rw [decide_eq_true hbig]
    repeat (first | refine wZ ?_ | intro b)
    exact e_ret1 _ rfl rfl ⟨⟨false, rfl, fun h => by cases h⟩, rfl⟩ (Ent.refl _)
  rw [decide_eq_false hbig]
  repeat (first | refine wZ ?_ | intro b)
  refine c_loop (α := Nat) (fun y => [(10, .int .i64 (y : Nat)), (9, .int .i64 (ny : Nat)), (8, .slice ya ny yc), (2, .bool false)]) (fun _ => I :: F) (fun y => y ≤ ny) (fun y => ny - y) 0 (Nat.zero_le _) (by exact ⟨rfl, rfl, rfl, rfl, trivial⟩) (Ent.refl _) ?_
  rintro i hi
  by_cases hlt : i < ny
  · obtain ⟨yb, yo, rfl, hyr⟩ := src_addr hy (by omega)
    obtain ⟨x, hx⟩ : ∃ x, ly[i]? = some x := ⟨ly[i]'(by omega), List.getElem?_eq_getElem (by omega)⟩
    have hrd : RdN [I] yb (yo + i * 4) (stC x) := rd_part (f := stC) (fun _ => rfl) hyr hx
    repeat (first | refine wZ ?_ | intro b)
    rw [decide_eq_true (by omega : (i : Int) < (ny : Int))]
    repeat (first | refine wZ ?_ | intro b)
    refine l_plain rfl ?_
    apply s_val rfl rfl
    · exact RunS.v (r_index (i := i) rfl rfl rfl hlt)
    obtain ⟨a, k, c, hsl⟩ := hls x (List.mem_of_getElem? hx)
    obtain ⟨⟨d, off, n, bs⟩, slv⟩ := x
    dsimp only at hsl
    subst hsl
    refine l_plain rfl ?_
    apply s_val rfl rfl
    · exact r_loadN (vs := [.string d, .int .i64 off, .int .i64 n, .slice a k c]) rfl rfl rfl (RdN.ent hrd (Ent.pick1 (i := 0) rfl))
    repeat (first | refine wZ ?_ | intro b)
    refine l_plain rfl (s_call rfl rfl (zz4_c d off n a k c) [] rfl ?_ (fun _ _ h => h.elim))
    rintro _ _ ⟨⟨q, rfl⟩, rfl⟩
    cases q with
    | false =>
      repeat (first | refine wZ ?_ | intro b)
      exact e_ret1 _ rfl rfl ⟨⟨_, rfl, fun _ => by omega⟩, rfl⟩ (arr_ent 1 [1] _)
    | true =>
      repeat (first | refine wZ ?_ | intro b)
      exact at_intro (i + 1) ⟨hlt, by omega⟩ ⟨rfl, rfl, rfl, rfl, trivial⟩ Ent.drop
  · repeat (first | refine wZ ?_ | intro b)
    rw [decide_eq_false (by omega : ¬ (i : Int) < (ny : Int))]
    repeat (first | refine wZ ?_ | intro b)
    exact e_ret1 _ rfl rfl ⟨⟨_, rfl, fun _ => by omega⟩, rfl⟩ (Ent.refl _)
end
end Go.Proofs.YtfebpbflpdppiaaGreatDoor
namespace Go.Proofs.YtfebpbflpdppiaaGreatDoor
open Go Go.Sl
set_option maxRecDepth 100000
attribute [local irreducible] wpList Code.wp Exit.then Exit.inBlock bodyPost RunS RunV G St Ct Sat Ent At Rd GQ QL wpAny wpOp wpQuiet slP Sl.ex sep
section
variable {I : HP}
set_option maxHeartbeats 8000000 in
theorem few_c (ls : List (Stp × Value)) (hls : ∀ x ∈ ls, ∃ a c, x.2 = .slice a x.1.bs.length c) (la : Option Addr) (nl lc : Nat) (hl : Src [I] 4 (.slice la nl lc) nl (ls.flatMap stC)) (hll : ls.length = nl) (hbig : nl ≤ 2147483647) :
    Ct Tryz.prog 7 #[.slice la nl lc] [I] (fun v B => (∃ q, v = .bool q ∧ (q = true → (∀ x ∈ ls, x.1.few) ∧ ls.length ≤ 60)) ∧ B = [I]) nev := by
  refine Ct.of Tryz.func7 rfl Tryz.ntmps7 rfl fun m F => ?_
  repeat (first | refine wZ ?_ | intro b)
  refine c_loop (α := Nat) (fun y => [(3, .int .i64 (y : Nat)), (0, .slice la nl lc), (2, .bool false)]) (fun _ => I :: F) (fun y => y ≤ nl ∧ ∀ x ∈ ls.take y, x.1.few) (fun y => nl - y) 0 ⟨Nat.zero_le _, fun x hx => by simp at hx⟩ (by exact ⟨rfl, rfl, rfl, trivial⟩) (Ent.refl _) ?_
  rintro i ⟨hi, hfw⟩
  by_cases hlt : i < nl
  · obtain ⟨yb, yo, rfl, hyr⟩ := src_addr hl (by omega)
    obtain ⟨x, hx⟩ : ∃ x, ls[i]? = some x := ⟨ls[i]'(by omega), List.getElem?_eq_getElem (by omega)⟩
    have hrd : RdN [I] yb (yo + i * 4) (stC x) := rd_part (f := stC) (fun _ => rfl) hyr hx
    have htk : ls.take (i + 1) = ls.take i ++ [x] := by rw [List.take_add_one, hx]; rfl
    obtain ⟨da, dc, hsl⟩ := hls x (List.mem_of_getElem? hx)
    obtain ⟨⟨d, off, n, bs⟩, slv⟩ := x
    dsimp only at hsl
    subst hsl
    repeat (first | refine wZ ?_ | intro b)
    rw [decide_eq_true (by omega : (i : Int) < (nl : Int))]
    repeat (first | refine wZ ?_ | intro b)
    refine l_plain rfl ?_
    apply s_val rfl rfl
    · exact RunS.v (r_index (i := i) rfl rfl rfl hlt)
    repeat (first | refine wZ ?_ | intro b)
    refine l_plain rfl ?_
    apply s_val (v := .int .i64 off) rfl rfl
    · exact r_load rfl rfl ((RdN.ent hrd (Ent.pick1 (i := 0) rfl)).get (j := 1) rfl)
    repeat (first | refine wZ ?_ | intro b)
    by_cases h1 : off < -1099511627776
    · rw [decide_eq_true h1]
      repeat (first | refine wZ ?_ | intro b)
      exact e_ret1 _ rfl rfl ⟨⟨false, rfl, fun h => by cases h⟩, rfl⟩ (Ent.refl _)
    rw [decide_eq_false h1]
    repeat (first | refine wZ ?_ | intro b)
    refine l_yes rfl rfl rfl ?_
    apply s_val rfl rfl
    · exact RunS.v (r_index (i := i) rfl rfl rfl hlt)
    repeat (first | refine wZ ?_ | intro b)
    refine l_yes rfl rfl rfl ?_
    apply s_val (v := .int .i64 off) rfl rfl
    · exact r_load rfl rfl ((RdN.ent hrd (Ent.pick1 (i := 0) rfl)).get (j := 1) rfl)
    repeat (first | refine wZ ?_ | intro b)
    by_cases h2 : 65536 < off
    · rw [decide_eq_true h2]
      repeat (first | refine wZ ?_ | intro b)
      exact e_ret1 _ rfl rfl ⟨⟨false, rfl, fun h => by cases h⟩, rfl⟩ (Ent.refl _)
    rw [decide_eq_false h2]
    repeat (first | refine wZ ?_ | intro b)
    refine l_yes rfl rfl rfl ?_
    apply s_val rfl rfl
    · exact RunS.v (r_index (i := i) rfl rfl rfl hlt)
    repeat (first | refine wZ ?_ | intro b)
    refine l_yes rfl rfl rfl ?_
    apply s_val (v := .int .i64 n) rfl rfl
    · exact r_load rfl rfl ((RdN.ent hrd (Ent.pick1 (i := 0) rfl)).get (j := 2) rfl)
    repeat (first | refine wZ ?_ | intro b)
    by_cases h3 : n < -1099511627776
    · rw [decide_eq_true h3]
      repeat (first | refine wZ ?_ | intro b)
      exact e_ret1 _ rfl rfl ⟨⟨false, rfl, fun h => by cases h⟩, rfl⟩ (Ent.refl _)
    rw [decide_eq_false h3]
    repeat (first | refine wZ ?_ | intro b)
    refine l_yes rfl rfl rfl ?_
    apply s_val rfl rfl
    · exact RunS.v (r_index (i := i) rfl rfl rfl hlt)
    repeat (first | refine wZ ?_ | intro b)
    refine l_yes rfl rfl rfl ?_
    apply s_val (v := .int .i64 n) rfl rfl
    · exact r_load rfl rfl ((RdN.ent hrd (Ent.pick1 (i := 0) rfl)).get (j := 2) rfl)
    repeat (first | refine wZ ?_ | intro b)
    by_cases h4 : 65536 < n
    · rw [decide_eq_true h4]
      repeat (first | refine wZ ?_ | intro b)
      exact e_ret1 _ rfl rfl ⟨⟨false, rfl, fun h => by cases h⟩, rfl⟩ (Ent.refl _)
    rw [decide_eq_false h4]
    repeat (first | refine wZ ?_ | intro b)
    refine l_yes rfl rfl rfl ?_
    apply s_val rfl rfl
    · exact RunS.v (r_index (i := i) rfl rfl rfl hlt)
    repeat (first | refine wZ ?_ | intro b)
    refine l_yes rfl rfl rfl ?_
    apply s_val (v := .slice da bs.length dc) rfl rfl
    · exact r_load rfl rfl ((RdN.ent hrd (Ent.pick1 (i := 0) rfl)).get (j := 3) rfl)
    repeat (first | refine wZ ?_ | intro b)
    by_cases h5 : 131072 < (bs.length : Int)
    · rw [decide_eq_true h5]
      repeat (first | refine wZ ?_ | intro b)
      exact e_ret1 _ rfl rfl ⟨⟨false, rfl, fun h => by cases h⟩, rfl⟩ (Ent.refl _)
    rw [decide_eq_false h5]
    repeat (first | refine wZ ?_ | intro b)
    refine at_intro (i + 1) ⟨⟨hlt, fun x hx => ?_⟩, by omega⟩ ⟨rfl, rfl, rfl, trivial⟩ (Ent.refl _)
    rw [htk] at hx
    rcases List.mem_append.1 hx with hx | hx
    · exact hfw x hx
    · simp only [List.mem_singleton] at hx
      subst hx
      exact ⟨⟨by show -1099511627776 ≤ off; omega, by show off ≤ 65536; omega⟩, ⟨by show -1099511627776 ≤ n; omega, by show n ≤ 65536; omega⟩, by show bs.length ≤ 131072; omega⟩
  · repeat (first | refine wZ ?_ | intro b)
    rw [decide_eq_false (by omega : ¬ (i : Int) < (nl : Int))]
    repeat (first | refine wZ ?_ | intro b)
    refine e_ret1 _ rfl rfl ⟨⟨_, rfl, fun h => ?_⟩, rfl⟩ (Ent.refl _)
    have h60 := of_decide_eq_true h
    rw [List.take_of_length_le (by omega)] at hfw
    exact ⟨hfw, by omega⟩
end
end Go.Proofs.YtfebpbflpdppiaaGreatDoor
namespace Go.Proofs.YtfebpbflpdppiaaGreatDoor
open Go Go.Sl
set_option maxRecDepth 100000
section
variable {pre post : List Value} {c0 c1 c2 c3 : Value} {k : Nat}
theorem l4_get (hp : pre.length = k * 4) (j : Nat) (hj : j < 4) : (pre ++ ([c0, c1, c2, c3] ++ post))[0 + k * 4 + j]? = [c0, c1, c2, c3][j]? := by
  rw [List.getElem?_append_right (by omega), List.getElem?_append_left (by simp; omega), hp, show 0 + k * 4 + j - k * 4 = j from by omega]
theorem l4_set (hp : pre.length = k * 4) (j : Nat) (hj : j < 4) (v : Value) : (pre ++ ([c0, c1, c2, c3] ++ post)).set (0 + k * 4 + j) v = pre ++ ([c0, c1, c2, c3].set j v ++ post) := by
  rw [List.set_append_right _ _ (by omega), List.set_append_left _ _ (by simp; omega), hp, show 0 + k * 4 + j - k * 4 = j from by omega]
theorem l4_lt (hp : pre.length = k * 4) (j : Nat) (hj : j < 4) : Nat.blt (0 + k * 4 + j) (pre ++ ([c0, c1, c2, c3] ++ post)).length = true := blt_of (by simp; omega)
end
theorem st_flen (l : List (Stp × Value)) : (l.flatMap stC).length = l.length * 4 := flat_len stC 4 (fun _ => rfl) l
theorem st_split (l1 l2 : List (Stp × Value)) (x : Stp × Value) (rest : List Value) : (l1 ++ x :: l2).flatMap stC ++ rest = l1.flatMap stC ++ ([.string x.1.d, .int .i64 x.1.off, .int .i64 x.1.n, x.2] ++ (l2.flatMap stC ++ rest)) := by
  simp only [List.flatMap_append, List.flatMap_cons, List.append_assoc]
  rfl
theorem sts_one (ls : List (Stp × Value)) (h : ∀ x ∈ ls, ∃ a k c, x.2 = .slice a k c) : (ls.flatMap stC).all (·.oneCell') = true := by
  rw [List.all_eq_true]
  intro v hv
  obtain ⟨x, hx, hv⟩ := List.mem_flatMap.1 hv
  obtain ⟨a, k, c, e⟩ := h x hx
  unfold stC at hv
  rw [e] at hv
  simp only [List.mem_cons, List.not_mem_nil, or_false] at hv
  rcases hv with rfl | rfl | rfl | rfl <;> rfl
attribute [local irreducible] wpList Code.wp Exit.then Exit.inBlock bodyPost RunS RunV G St Ct Sat Ent At Rd GQ QL wpAny wpOp wpQuiet slP Sl.ex sep
section
variable {I : HP}
set_option maxHeartbeats 8000000 in
theorem copies_c (ls : List (Stp × Value)) (hls : ∀ x ∈ ls, x.1.bs.length ≤ 131072 ∧ Src [I] 1 x.2 x.1.bs.length (u8s x.1.bs)) (la : Option Addr) (nl lc : Nat) (hl : Src [I] 4 (.slice la nl lc) nl (ls.flatMap stC)) (hll : ls.length = nl) (hn : nl ≤ 1000) :
    Ct Tryz.prog 11 #[.slice la nl lc] [I] (fun v B => ∃ (a' : Option Addr) (c' : Nat) (ls' : List (Stp × Value)) (W : HP), v = .slice a' nl c' ∧ ls'.map (·.1) = ls.map (·.1) ∧ (∀ x ∈ ls', Src [W] 1 x.2 x.1.bs.length (u8s x.1.bs)) ∧ B = [I, slP (.slice a' nl c') 43 4 (ls'.flatMap stC), W]) nev := by
  refine Ct.of Tryz.func11 rfl Tryz.ntmps11 rfl fun m F => ?_
  have hsl : ∀ x ∈ ls, ∃ a k c, x.2 = .slice a k c := fun x hx => by
    obtain ⟨a, c, h⟩ := src_slc (hls x hx).2
    exact ⟨a, _, c, h⟩
  repeat (first | refine wZ ?_ | intro b)
  refine G.ent (L' := slP (.slice none 0 0) 43 4 [] :: I :: F) slP_nil ?_
  refine l_plain rfl (s_append (i := 0) (kk := nl) rfl rfl rfl (Src.ent hl (Ent.pick1 (i := 1) rfl)) rfl rfl rfl (sts_one ls hsl) (by omega) (by simp only [maxLen]; omega) rfl ?_)
  intro a1 c1
  rw [List.nil_append, Nat.zero_add]
  repeat (first | refine wZ ?_ | intro b)
  refine c_loop (α := Nat × List (Stp × Value) × HP) (fun y => [(4, .int .i64 (y.1 : Nat)), (3, .slice a1 nl c1)]) (fun y => slP (.slice a1 nl c1) 43 4 (y.2.1.flatMap stC) :: y.2.2 :: I :: F)
    (fun y => y.1 ≤ nl ∧ y.2.1.map (·.1) = ls.map (·.1) ∧ (∀ j x, y.2.1[j]? = some x → if j < y.1 then Src [y.2.2] 1 x.2 x.1.bs.length (u8s x.1.bs) else ls[j]? = some x)) (fun y => nl - y.1) (0, ls, sep []) ⟨Nat.zero_le _, rfl, fun j x hx => by rw [if_neg (by simp)]; exact hx⟩ (by exact ⟨rfl, rfl, trivial⟩) ((Ent.cons (sep_shut [] _))) ?_
  rintro ⟨i, cur, W⟩ ⟨hi, hcm, hcj⟩
  dsimp only at hi hcm hcj ⊢
  have hcl : cur.length = nl := by have := congrArg List.length hcm; simpa [hll] using this
  by_cases hlt : i < nl
  · obtain ⟨x, hx⟩ : ∃ x, cur[i]? = some x := ⟨cur[i]'(by omega), List.getElem?_eq_getElem (by omega)⟩
    have hxi := hcj i x hx
    rw [if_neg (by omega)] at hxi
    obtain ⟨hxb, hxs⟩ := hls x (List.mem_of_getElem? hxi)
    obtain ⟨k1, k2, rfl, hk1⟩ := split_at hx
    have hpre : (k1.flatMap stC).length = i * 4 := by rw [st_flen, hk1]
    obtain ⟨⟨d, off, n, bs⟩, slv⟩ := x
    dsimp only at hxb hxs
    obtain ⟨da, dc, rfl⟩ := src_slc hxs
    refine slP_open (fun _ h => absurd h (by omega)) (fun tb rest q1 q2 q3 q4 q5 => ?_)
    subst q1
    rw [st_split] at q5 ⊢
    repeat (first | refine wZ ?_ | intro b)
    rw [decide_eq_true (by omega : (i : Int) < (nl : Int))]
    repeat (first | refine wZ ?_ | intro b)
    dsimp only at q5 ⊢
    refine l_plain rfl ?_
    apply s_val rfl rfl
    · exact RunS.v (r_index (i := i) rfl rfl rfl hlt)
    repeat (first | refine wZ ?_ | intro b)
    refine l_plain rfl ?_
    apply s_val (v := .slice da bs.length dc) rfl rfl
    · exact r_load rfl rfl (rd_blk 0 rfl (l4_get hpre 3 (by decide)))
    refine l_plain rfl (s_call rfl rfl (copied_c bs da bs.length dc hxs (by omega)) [2] rfl ?_ (fun _ _ h => h.elim))
    rintro _ _ ⟨a2, c2, rfl, rfl⟩
    refine l_plain rfl ?_
    apply s_val rfl rfl
    · exact RunS.v (r_index (i := i) rfl rfl rfl hlt)
    repeat (first | refine wZ ?_ | intro b)
    refine l_plain rfl ?_
    refine s_store (i := 2) rfl rfl rfl rfl rfl rfl (l4_lt hpre 3 (by decide)) ?_
    rw [l4_set hpre 3 (by decide)]
    simp only [List.set_cons_succ, List.set_cons_zero]
    repeat (first | refine wZ ?_ | intro b)
    refine G.ent (Ent.trans (arr_ent 0 [2] _) (Ent.refl _)) ?_
    refine src_sl1 fun hs1 hc1 => ?_
    refine at_intro (i + 1, k1 ++ (⟨d, off, n, bs⟩, .slice a2 bs.length c2) :: k2, sep [slP (.slice a2 bs.length c2) 5 1 (u8s bs), W]) ⟨⟨hlt, ?_, ?_⟩, by dsimp only; omega⟩ ⟨rfl, rfl, trivial⟩ ?_
    · dsimp only
      rw [← hcm]
      simp
    · dsimp only
      intro j x hxn
      by_cases hji : j = i
      · subst hji
        rw [List.getElem?_append_right (by omega), hk1, Nat.sub_self] at hxn
        have hx3 : ((⟨d, off, n, bs⟩ : Stp), Value.slice a2 bs.length c2) = x := Option.some.inj hxn
        rw [← hx3]
        rw [if_pos (by omega)]
        exact hs1.ent sep2_l
      · have hx2 : (k1 ++ (⟨d, off, n, bs⟩, .slice da bs.length dc) :: k2)[j]? = some x := by
          rw [← hxn]
          by_cases hlt2 : j < k1.length
          · rw [List.getElem?_append_left hlt2, List.getElem?_append_left hlt2]
          · rw [List.getElem?_append_right (by omega), List.getElem?_append_right (by omega), show j - k1.length = (j - i - 1) + 1 from by omega, List.getElem?_cons_succ, List.getElem?_cons_succ]
        have h3 := hcj j x hx2
        by_cases hj : j < i
        · rw [if_pos hj] at h3
          rw [if_pos (by omega)]
          exact h3.ent sep2_r
        · rw [if_neg hj] at h3
          rw [if_neg (by omega)]
          exact h3
    · dsimp only
      refine Ent.trans (arr_ent 0 [1, 0, 1, 0] _) ?_
      refine Ent.trans ?_ (Ent.cons (sep_shut [_, _] _))
      have e : (k1 ++ (⟨d, off, n, bs⟩, .slice a2 bs.length c2) :: k2).flatMap stC ++ rest = k1.flatMap stC ++ ([.string d, .int .i64 off, .int .i64 n, .slice a2 bs.length c2] ++ (k2.flatMap stC ++ rest)) := st_split k1 k2 (⟨d, off, n, bs⟩, .slice a2 bs.length c2) rest
      rw [← e]
      refine slP_shut ?_ q3 q4 ?_
      · rw [st_flen]
        simp at hcl ⊢
        omega
      · rw [e]
        simpa using q5
  · obtain rfl : i = nl := by omega
    repeat (first | refine wZ ?_ | intro b)
    rw [decide_eq_false (by omega : ¬ (i : Int) < (i : Int))]
    repeat (first | refine wZ ?_ | intro b)
    refine e_ret1 _ rfl rfl ⟨a1, c1, cur, W, rfl, hcm, fun x hx => ?_, rfl⟩ (arr_ent 0 [2, 0, 0] _)
    obtain ⟨j, hj⟩ := List.mem_iff_getElem?.1 hx
    have h3 := hcj j x hj
    rw [if_pos (by have := (List.getElem?_eq_some_iff.1 hj).1; omega)] at h3
    exact h3
end
end Go.Proofs.YtfebpbflpdppiaaGreatDoor
