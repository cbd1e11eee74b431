/- The reference's stacks: what a deed begins with; levels · The reference's stacks: deeds without a transaction; rollbacks · The reference's stacks: the end of a transaction · The reference's stacks: deeds. -/
import Derived.Test.YtfebpbflpdppiaaGreatDoorF16
namespace Go.Proofs.YtfebpbflpdppiaaGreatDoor
open Go Go.Sl
set_option maxRecDepth 100000
/-- a level, and where its slices lie -/
structure LE where
  p : List Int
  q : List Bool
  pa : Option Addr
  pc : Nat
  qa : Option Addr
  qc : Nat
def LE.lv (e : LE) : List Int × List Bool := (e.p, e.q)
def leCells (e : LE) : List Value := [.slice e.pa e.p.length e.pc, .slice e.qa e.q.length e.qc]
structure LEok (Z : HP) (e : LE) : Prop where
  b : Src [Z] 1 (.slice e.pa e.p.length e.pc) e.p.length (i16s e.p)
  bc : e.p.length ≤ e.pc
  w : Src [Z] 1 (.slice e.qa e.q.length e.qc) e.q.length (bls e.q)
  wc : e.q.length ≤ e.qc
  bn : e.p.length ≤ 1000000
  wn : e.q.length ≤ 1000000
theorem LEok.ent {Z Z' : HP} {e : LE} (h : LEok Z e) (t : Ent [Z'] [Z]) : LEok Z' e := ⟨h.b.ent t, h.bc, h.w.ent t, h.wc, h.bn, h.wn⟩
/-- some cells of a block -/
def atM (b : Nat) (vs : List (Nat × Value)) (e : TypeId) : HP := fun h => ∃ l, h b = some (cl l e) ∧ ∀ p ∈ vs, l[p.1]? = some p.2
theorem atM_of {b : Nat} {vs : List (Nat × Value)} {e : TypeId} {l : List Value} {L : List HP} (h : ∀ p ∈ vs, l[p.1]? = some p.2) : Ent (blk b (cl l e) :: L) (atM b vs e :: L) := Ent.imp fun _ hb => ⟨l, hb, h⟩
theorem rd_atM {b o : Nat} {v : Value} {vs : List (Nat × Value)} {e : TypeId} (hv : (o, v) ∈ vs) : Rd [atM b vs e] ⟨b, o, none⟩ v := fun m w h => by
  obtain ⟨a, ha, l, hl, hv'⟩ := h.2.2.2.head
  have := ha _ _ hl
  have e2 : w.heap[b]? = some (cl l e) := this
  simp [World.cell?, e2, cl, hv' _ hv]
section
variable {P : Program} {n : Nat} {ds : List Deferred} {σ : Env} {m : Amb} {L R : List HP} {Q : Exit → Act → World → Prop} {K : Act → World → Prop}
variable {d : Nat} {ty : TypeId} {pos : String} {aft : Array Edge} {gd : Option (Nat × Bool)} {x y : Operand} {t e : TypeId}
theorem s_appendG {size bytes k kk c0 : Nat} {z sv : Value} {a0 : Option Addr} {l news : List Value} [h1 : TyU P t (.slice e)] [h2 : TyI P e size bytes z] (hx : opd σ x = some (.slice a0 k c0)) (hy : opd σ y = some sv)
    (hs : Src R size sv kk news) (hz : z.cells.size = size) (hsz : Nat.blt 0 size = true) (hl : l.length = k * size) (hkk : 0 < kk)
    (hc : news.all (·.oneCell') = true) (hb : (k + kk) * bytes ≤ 140737488355328) (hm : k + kk ≤ maxLen) (hk : Nat.blt d n = true)
    (h : ∀ a c, G n ds ((d, .slice a (k + kk) c) :: σ) m (slP (.slice a (k + kk) c) e size (l ++ news) :: R) K) :
    G n ds σ m (slG (.slice a0 k c0) e size l :: R) (St P ⟨some d, .call ⟨.builtin .append, #[x, y], #[t, t]⟩, ty, pos, aft, gd⟩ K Q) := by
  refine slG_open (fun e1 e2 e3 e4 => ?_) (fun b rest e1 e2 e3 e4 e5 => ?_)
  · subst e1 e2 e3 e4
    refine G.ent (L' := slP (.slice none 0 0) e size [] :: R) slP_nil ?_
    exact s_append (i := 0) hx hy rfl (hs.ent Ent.drop) hz hsz hl hc hb hm hk h
  · subst e1
    rcases e5 with e5 | e5
    · refine G.ent (L' := slP (.slice (some ⟨b, 0, none⟩) k c0) e size l :: R) (slP_shut e2 e3 e4 e5) ?_
      exact s_append (i := 0) hx hy rfl (hs.ent Ent.drop) hz hsz hl hc hb hm hk h
    · subst e5
      refine s_appendF hx hy e2 ?_ (hs.ent Ent.drop) hz hsz hkk hb hm hk fun a c => ?_
      · exact RdN.of fun j v hv => rd_blk 0 rfl (by rw [Nat.zero_add, List.getElem?_append_left (List.getElem?_eq_some_iff.1 hv).1]; exact hv)
      · exact G.ent (Ent.cons Ent.drop) (h a c)
end
/-- the heap of a stack -/
def SH (sb lb lcap : Nat) (rest : List Value) (xs : List LV) (es : List LE) (Z : HP) (la : Option Addr) (lc : Nat) (pa : Option Addr) (pc : Nat) (pts : List Int) (ls vg mk : Bool) : List HP :=
  [blk sb (cl [.slice (some ⟨lb, 0, none⟩) xs.length lcap, .slice pa pts.length pc, .bool ls, .bool vg, .bool mk] 75), blk lb (cl (xs.flatMap lvCells ++ rest) 80), Z, slG (.slice la es.length lc) 139 2 (es.flatMap leCells), slP (.slice pa pts.length pc) 2 1 (ints pts)]
/-- what a stack holds -/
structure SS where
  ys : List Ly
  pts : List Int
  ls : Bool
  vg : Bool
  ms : Bool
def begY (s : SS) (j : Nat) (x : Ly) : Ly := if x.levels = [] then { x with bytes := viewF s.ys j, wrote := [], shadow := 0 } else x
/-- what stands behind a deed -/
def DeR (Z : HP) (sb lb lcap : Nat) (rest : List Value) (n k : Nat) (r : SS × Nat) (v : Value) (B : List HP) : Prop :=
  v = .int .i64 (r.2 : Nat) ∧ ∃ (xs' : List LV) (es' : List LE) (Z' : HP) (la' : Option Addr) (lc' : Nat) (pa' : Option Addr) (pc' : Nat),
    xs'.map (·.y) = r.1.ys ∧ xs'.length = n ∧ (∀ x ∈ xs', LVok Z' x) ∧ (∀ e ∈ es', LEok Z' e) ∧ (∀ x, xs'[k]? = some x → x.y.levels = es'.map LE.lv ∧ x.la = la' ∧ x.lc = lc') ∧ Ent [Z'] [Z] ∧
    B = SH sb lb lcap rest xs' es' Z' la' lc' pa' pc' r.1.pts r.1.ls r.1.vg r.1.ms
theorem leCells_flen (es : List LE) : (es.flatMap leCells).length = es.length * 2 := flat_len leCells 2 (fun _ => rfl) es
attribute [local irreducible] wpList Code.wp Exit.then Exit.inBlock bodyPost RunS RunV G St Ct Sat Ent At Rd GQ QL wpAny wpOp wpQuiet slP Sl.ex sep
section
variable {Z : HP} {sb lb lcap pc lc : Nat} {pa la : Option Addr} {rest : List Value} {xs : List LV} {es : List LE} {s : SS}
set_option maxHeartbeats 16000000 in
theorem begin_c (hxl : xs.length ≤ 1000) (hok : ∀ x ∈ xs, LVok Z x) (hB : StB xs) (heo : ∀ e ∈ es, LEok Z e) (hys : xs.map (·.y) = s.ys) (j : Nat) (x : LV) (hx : xs[j + 1]? = some x) (hkd : x.y.kd = .roll) (hlv : x.y.levels = es.map LE.lv) (hla : x.la = la) (hlc : x.lc = lc) (hel : es.length ≤ 500)
    (hsm : (viewF s.ys j).length ≤ 1000000) :
    Ct Tryz.prog 42 #[.pointer (some ⟨sb, 0, none⟩), .int .i64 (j + 1 : Nat), .string sBegin] (SH sb lb lcap rest xs es Z la lc pa pc s.pts s.ls s.vg s.ms)
      (DeR Z sb lb lcap rest xs.length (j + 1) ({ s with ys := s.ys.set (j + 1) { begY s j x.y with levels := x.y.levels ++ [((begY s j x.y).bytes, (begY s j x.y).wrote)] } }, 0)) nev := by
  have hxo := hok x (List.mem_of_getElem? hx)
  have h0 : j + 1 < xs.length := (List.getElem?_eq_some_iff.1 hx).1
  have hvw := view_c (sb := sb) (lb := lb) (lcap := lcap) (rest := rest) (p1 := .slice pa s.pts.length pc) (p2 := .bool s.ls) (p3 := .bool s.vg) (p4 := .bool s.ms) hxl hok hB j (by omega)
  rw [hys] at hvw
  have hll : x.y.levels.length = es.length := by rw [hlv, List.length_map]
  unfold SH
  refine Ct.of Tryz.func42 rfl Tryz.ntmps42 rfl fun m F => ?_
  repeat (first | refine wZ ?_ | intro b)
  refine l_plain rfl ?_
  apply s_val rfl rfl
  · exact RunS.v (r_index (i := j + 1) rfl rfl rfl h0)
  repeat (first | refine wZ ?_ | intro b)
  rw [decide_eq_false (by omega : ¬ ((j + 1 : Nat) : Int) = 0)]
  repeat (first | refine wZ ?_ | intro b)
  refine l_plain rfl ?_
  apply s_val (v := .string sRb) rfl rfl
  · exact r_load rfl rfl (rd_blk 1 rfl ((lc_get hx 0 (by decide)).trans (by rw [lvCells, hkd]; rfl)))
  repeat (first | refine wZ ?_ | intro b)
  refine l_plain rfl ?_
  apply s_val (v := .slice la es.length lc) rfl rfl
  · exact r_load rfl rfl (rd_blk 1 rfl ((lc_get hx 5 (by decide)).trans (by rw [lvCells, hll, hla, hlc]; rfl)))
  repeat (first | refine wZ ?_ | intro b)
  obtain ⟨xs1, xs2, rfl, hxs1⟩ := split_at hx
  have hpre := pre_len hxs1
  have hset : s.ys = xs1.map (·.y) ++ x.y :: xs2.map (·.y) := by rw [← hys]; simp
  generalize hbY : begY s j x.y = bY
  unfold begY at hbY
  generalize hV : viewF s.ys j = V at hsm hvw hbY
  rw [hset, set_split (by simpa using hxs1), lv_split]
  rw [lv_split] at hvw
  have hkeep : ∀ x' : LV, ∀ Z', Ent [Z'] [Z] → LVok Z' x' → ∀ y ∈ xs1 ++ x' :: xs2, LVok Z' y := fun x' Z' e h y hy => by
    rcases List.mem_append.1 hy with h1 | h1
    · exact (hok y (by simp [h1])).ent e
    · rcases List.mem_cons.1 h1 with rfl | h1
      · exact h
      · exact (hok y (by simp [h1])).ent e
  generalize hpr : xs1.flatMap lvCells = pre at hpre hvw ⊢
  generalize hpo : xs2.flatMap lvCells ++ rest = post at hvw ⊢
  obtain ⟨⟨kd, off, bytes, wrote, shadow, levels⟩, va, vc, wa, wc, la', lc'⟩ := x
  obtain ⟨hb1, hb2, hb3, hb4, hb5, hb6, hb7, hb8, hb9⟩ := hxo
  dsimp only at hkd hlv hla hlc hll hb1 hb2 hb3 hb4 hb5 hb6 hb7 hb8 hb9 hbY hvw ⊢
  subst hkd hla hlc hlv
  rw [List.length_map] at hvw ⊢
  generalize hxn : (xs1 ++ (⟨⟨.roll, off, bytes, wrote, shadow, es.map LE.lv⟩, va, vc, wa, wc, la', lc'⟩ : LV) :: xs2).length = xn at h0 hvw
  refine c_mid (α := LV × HP) (fun _ => [(0, .pointer (some ⟨sb, 0, none⟩)), (7, .pointer (some ⟨lb, 0 + (j + 1) * 6, none⟩))])
    (fun p => blk lb (cl (pre ++ ([.string KD.roll.s, .int .i64 (off : Nat), .slice p.1.va p.1.y.bytes.length p.1.vc, .slice p.1.wa p.1.y.wrote.length p.1.wc, .int .i64 (p.1.y.shadow : Nat), .slice la' es.length lc'] ++ post)) 80) :: blk sb (cl [.slice (some ⟨lb, 0, none⟩) xn lcap, .slice pa s.pts.length pc, .bool s.ls, .bool s.vg, .bool s.ms] 75) :: p.2 :: slG (.slice la' es.length lc') 139 2 (es.flatMap leCells) :: slP (.slice pa s.pts.length pc) 2 1 (ints s.pts) :: F)
    (fun p => p.1.y = bY ∧ LVok p.2 p.1 ∧ Ent [p.2] [Z] ∧ p.1.la = la' ∧ p.1.lc = lc') ?_ ?_
  · cases es with
    | cons e es =>
      rw [decide_eq_false (by rw [List.length_cons]; omega : ¬ (((e :: es).length : Nat) : Int) = 0)]
      rw [if_neg (by simp)] at hbY
      repeat (first | refine wZ ?_ | intro b)
      subst hbY
      exact at_intro (⟨⟨.roll, off, bytes, wrote, shadow, (e :: es).map LE.lv⟩, va, vc, wa, wc, la', lc'⟩, Z) ⟨rfl, ⟨hb1, hb2, hb3, hb4, hb5, hb6, hb7, hb8, hb9⟩, Ent.refl _, rfl, rfl⟩ ⟨rfl, rfl, trivial⟩ (arr_ent 0 [1] _)
    | nil =>
      rw [decide_eq_true (by rfl : ((([] : List LE).length : Nat) : Int) = 0)]
      rw [if_pos (by simp)] at hbY
      subst hbY
      repeat (first | refine wZ ?_ | intro b)
      revert b; intro tb
      refine G.ent (L' := slP (.slice (some ⟨tb, 0, none⟩) 0 0) 123 1 [] :: _) (slP_blk (k := 0) rfl (Nat.zero_le _)) ?_
      refine l_plain rfl (s_call rfl rfl hvw [1, 1] rfl ?_ (fun _ _ h => h.elim))
      rintro _ _ ⟨⟨a1, c1, rfl, hv1, hv2⟩, rfl⟩
      repeat (first | refine wZ ?_ | intro b)
      refine l_plain rfl (s_append (i := 2) rfl rfl rfl (RE hv2 3 rfl) rfl rfl rfl (i16s_one _) (by omega) (by simp only [maxLen]; omega) rfl ?_)
      intro a2 c2
      rw [List.nil_append, Nat.zero_add]
      repeat (first | refine wZ ?_ | intro b)
      refine l_plain rfl ?_
      refine s_store (i := 2) rfl rfl rfl rfl rfl rfl (lw_lt hpre 2 (by decide)) ?_
      rw [lw_set hpre 2 (by decide)]
      simp only [List.set_cons_succ, List.set_cons_zero]
      repeat (first | refine wZ ?_ | intro b)
      refine l_plain rfl ?_
      refine s_store (i := 0) rfl rfl rfl rfl rfl rfl (lw_lt hpre 3 (by decide)) ?_
      rw [lw_set hpre 3 (by decide)]
      simp only [List.set_cons_succ, List.set_cons_zero]
      repeat (first | refine wZ ?_ | intro b)
      refine l_plain rfl ?_
      refine s_store (i := 0) rfl rfl rfl rfl rfl rfl (lw_lt hpre 4 (by decide)) ?_
      rw [lw_set hpre 4 (by decide)]
      simp only [List.set_cons_succ, List.set_cons_zero]
      repeat (first | refine wZ ?_ | intro b)
      refine G.ent (Ent.trans (arr_ent 0 [1] _) (Ent.refl _)) ?_
      refine src_sl1 fun hs1 hc1 => ?_
      refine at_intro (⟨⟨.roll, off, V, [], 0, []⟩, a2, c2, none, 0, la', lc'⟩, sep [slP (.slice a2 V.length c2) 123 1 (i16s V), Z]) ⟨rfl, ⟨hs1.ent sep2_l, hc1, Src.nil, Nat.le_refl _, hsm, Nat.zero_le _, hb7, Nat.zero_le _, Nat.zero_le _⟩, sep2_r, rfl, rfl⟩ ⟨rfl, rfl, trivial⟩ ?_
      exact (arr_ent 0 [1, 1] _).trans (Ent.append [_, _] (sep_shut [_, _] _))
  · rintro ⟨x1, Z1⟩ ⟨h1, h2, h3, h4, h5⟩
    dsimp only at h1 h2 h3 h4 h5 ⊢
    repeat (first | refine wY ?_ | intro b)
    obtain ⟨g1, g2, g3, g4, g5, g6, g7, g8, g9⟩ := h2
    subst h4 h5
    generalize hLB : blk lb (cl (pre ++ ([.string KD.roll.s, .int .i64 (off : Nat), .slice x1.va x1.y.bytes.length x1.vc, .slice x1.wa x1.y.wrote.length x1.wc, .int .i64 (x1.y.shadow : Nat), .slice x1.la es.length x1.lc] ++ post)) 80) = LB
    have hEc : ∀ (c5 : Value) (R : List HP), Ent (blk lb (cl (pre ++ ([.string KD.roll.s, .int .i64 (off : Nat), .slice x1.va x1.y.bytes.length x1.vc, .slice x1.wa x1.y.wrote.length x1.wc, .int .i64 (x1.y.shadow : Nat), c5] ++ post)) 80) :: R) [atM lb [(0 + (j + 1) * 6 + 2, .slice x1.va x1.y.bytes.length x1.vc), (0 + (j + 1) * 6 + 3, .slice x1.wa x1.y.wrote.length x1.wc)] 80] := fun c5 R => by
      refine (atM_of fun p hp => ?_).trans (Ent.left [_] _)
      simp only [List.mem_cons, List.not_mem_nil, or_false] at hp
      rcases hp with rfl | rfl
      · exact lw_get hpre 2 (by decide)
      · exact lw_get hpre 3 (by decide)
    have hbk : bY.kd = .roll ∧ bY.off = off := by rw [← hbY]; split <;> exact ⟨rfl, rfl⟩
    have hE0 : ∀ R : List HP, Ent (LB :: R) [atM lb [(0 + (j + 1) * 6 + 2, .slice x1.va x1.y.bytes.length x1.vc), (0 + (j + 1) * 6 + 3, .slice x1.wa x1.y.wrote.length x1.wc)] 80] := fun R => by
      rw [← hLB]
      exact hEc _ R
    have hE1 : ∀ (A : HP) (R : List HP), Ent (A :: LB :: R) [atM lb [(0 + (j + 1) * 6 + 2, .slice x1.va x1.y.bytes.length x1.vc), (0 + (j + 1) * 6 + 3, .slice x1.wa x1.y.wrote.length x1.wc)] 80] := fun A R => Ent.drop.trans (hE0 R)
    have hE2 : ∀ (A B : HP) (R : List HP), Ent (A :: B :: LB :: R) [atM lb [(0 + (j + 1) * 6 + 2, .slice x1.va x1.y.bytes.length x1.vc), (0 + (j + 1) * 6 + 3, .slice x1.wa x1.y.wrote.length x1.wc)] 80] := fun A B R => Ent.drop.trans (hE1 B R)
    have hld : ∀ i L R, takeAt i L = some (LB, R) → Rd L ⟨lb, 0 + (j + 1) * 6 + 5, none⟩ (.slice x1.la es.length x1.lc) := fun i L R h => by
      rw [← hLB] at h
      exact rd_blk i h (lw_get hpre 5 (by decide))
    refine h_any [atM lb [(0 + (j + 1) * 6 + 2, .slice x1.va x1.y.bytes.length x1.vc), (0 + (j + 1) * 6 + 3, .slice x1.wa x1.y.wrote.length x1.wc)] 80] 21 rfl ?_
    have hE := hE0 (blk sb (cl [.slice (some ⟨lb, 0, none⟩) xn lcap, .slice pa s.pts.length pc, .bool s.ls, .bool s.vg, .bool s.ms] 75) :: Z1 :: slG (.slice x1.la es.length x1.lc) 139 2 (es.flatMap leCells) :: slP (.slice pa s.pts.length pc) 2 1 (ints s.pts) :: F)
    refine h_take (by assumption) 0 rfl (by kernel_rfl) (by kernel_rfl) (by kernel_rfl) rfl rfl rfl pQ rV ?_
    refine h_take (by assumption) 1 rfl (by kernel_rfl) (by kernel_rfl) (by kernel_rfl) rfl rfl rfl pQ rV ?_
    refine h_take (by assumption) 2 rfl (by kernel_rfl) (by kernel_rfl) (by kernel_rfl) rfl rfl rfl pQ rV ?_
    refine h_take (by assumption) 3 rfl (by kernel_rfl) (by kernel_rfl) (by kernel_rfl) rfl rfl rfl pQ rV ?_
    refine h_take (by assumption) 6 rfl (by kernel_rfl) (by kernel_rfl) (by kernel_rfl) rfl rfl rfl pQ rV ?_
    refine h_take (by assumption) 7 rfl (by kernel_rfl) (by kernel_rfl) (by kernel_rfl) rfl rfl rfl pQ rV ?_
    refine h_take (by assumption) 8 rfl (by kernel_rfl) (by kernel_rfl) (by kernel_rfl) rfl rfl rfl pQ rV ?_
    refine h_take (v := .slice x1.va x1.y.bytes.length x1.vc) hE 9 rfl (by kernel_rfl) (by kernel_rfl) (by kernel_rfl) rfl rfl rfl pQ (r_load rfl rfl (rd_atM (by simp))) ?_
    refine h_take (by assumption) 11 rfl (by kernel_rfl) (by kernel_rfl) (by kernel_rfl) rfl rfl rfl pQ rV ?_
    refine h_take (by assumption) 12 rfl (by kernel_rfl) (by kernel_rfl) (by kernel_rfl) rfl rfl rfl pQ rV ?_
    refine h_take (by assumption) 13 rfl (by kernel_rfl) (by kernel_rfl) (by kernel_rfl) rfl rfl rfl pQ rV ?_
    refine h_take (v := .slice x1.wa x1.y.wrote.length x1.wc) hE 14 rfl (by kernel_rfl) (by kernel_rfl) (by kernel_rfl) rfl rfl rfl pQ (r_load rfl rfl (rd_atM (by simp))) ?_
    repeat' first
      | refine h_two 4 5 (by decide +kernel) rfl rfl rfl rfl ?_ ?_
      | refine h_two 4 10 (by decide +kernel) rfl rfl rfl rfl ?_ ?_
      | refine h_two 4 16 (by decide +kernel) rfl rfl rfl rfl ?_ ?_
      | refine h_one 4 (by decide +kernel) rfl rfl ?_
      | refine h_one 5 (by decide +kernel) rfl rfl ?_
      | refine h_one 10 (by decide +kernel) rfl rfl ?_
      | refine h_one 16 (by decide +kernel) rfl rfl ?_
      | refine h_take (v := .agg #[.slice a1 (0 + x1.y.bytes.length) c1, .slice x1.wa x1.y.wrote.length x1.wc]) (by first | exact hE1 _ _ | exact hE0 _ | exact hE2 _ _ _) 15 rfl (by kernel_rfl) (by kernel_rfl) (by decide +kernel) rfl rfl rfl pQ (RunS.v (r_build (cells := #[.slice a1 (0 + x1.y.bytes.length) c1, .slice x1.wa x1.y.wrote.length x1.wc]) rfl (by kernel_rfl))) ?_
      | (refine s_build (size := 2) (vs := [.agg #[.slice a1 (0 + x1.y.bytes.length) c1, .slice x1.wa x1.y.wrote.length x1.wc]]) (l := [.slice a1 (0 + x1.y.bytes.length) c1, .slice x1.wa x1.y.wrote.length x1.wc]) rfl rfl rfl rfl rfl (by intro v hv; simp at hv; subst hv; rfl) (by simp [Value.cells]) rfl rfl fun tb3 => ?_; refine h_then (hE2 _ _ _) ?_)
      | (refine s_build1 rfl rfl rfl rfl rfl rfl rfl fun tb2 => ?_; refine G.ent (L' := slP (.slice (some ⟨tb2, 0, none⟩) 0 0) 123 1 [] :: _) (slP_blk (k := 0) rfl (Nat.zero_le _)) ?_; refine h_then (hE1 _ _) ?_)
      | (apply s_val (v := .slice x1.la es.length x1.lc) rfl rfl; (first | exact r_load rfl rfl (hld 0 _ _ rfl) | exact r_load rfl rfl (hld 1 _ _ rfl) | exact r_load rfl rfl (hld 2 _ _ rfl)); (first | refine h_then (hE0 _) ?_ | refine h_then (hE1 _ _) ?_ | refine h_then (hE2 _ _ _) ?_))
      | (refine s_append (i := 0) rfl rfl rfl (RE g1 3 rfl) rfl rfl rfl (i16s_one _) (by omega) (by simp only [maxLen]; omega) rfl ?_; intro a1 c1; refine h_then (hE1 _ _) ?_)
      | fail
    all_goals
      refine h_one 17 (by kernel_rfl) rfl rfl ?_
      refine G.ent (Ent.trans (arr_ent 0 [5] _) (Ent.refl _)) ?_
      refine s_appendG rfl rfl (Src.some _ _ _ _ _ rfl (rdn_all 0 rfl)) rfl rfl (leCells_flen es) (by decide) rfl (by omega) (by simp only [maxLen]; omega) rfl fun a3 c3 => ?_
      refine h_then (Ent.drop.trans (hE2 _ _ _)) ?_
      refine h_take (Ent.drop.trans (hE2 _ _ _)) 18 rfl (by kernel_rfl) (by kernel_rfl) (by kernel_rfl) rfl rfl rfl pQ rV ?_
      refine h_take (Ent.drop.trans (hE2 _ _ _)) 19 rfl (by kernel_rfl) (by kernel_rfl) (by kernel_rfl) rfl rfl rfl pQ rV ?_
      refine h_one 20 (by kernel_rfl) rfl rfl ?_
      subst hLB
      refine s_store (i := 3) rfl rfl rfl rfl rfl rfl (lw_lt hpre 5 (by decide)) ?_
      rw [lw_set hpre 5 (by decide)]
      simp only [List.set_cons_succ, List.set_cons_zero]
      refine h_then (hEc _ _) ?_
      refine h_done (by kernel_rfl) ?_
      refine q_then_n ?_
      repeat (first | refine wZ ?_ | intro b)
      refine G.ent (Ent.trans (arr_ent 0 [3] _) (Ent.refl _)) ?_
      have e0 : 0 + x1.y.bytes.length = x1.y.bytes.length := Nat.zero_add _
      rw [List.nil_append, e0]
      refine src_sl1 fun hs1 hc1 => ?_
      refine e_ret1 _ rfl rfl ⟨rfl, xs1 ++ ⟨{ bY with levels := es.map LE.lv ++ [(bY.bytes, bY.wrote)] }, x1.va, x1.vc, x1.wa, x1.wc, a3, c3⟩ :: xs2, es ++ [⟨x1.y.bytes, x1.y.wrote, a1, c1, x1.wa, x1.wc⟩], sep [slP (.slice a1 x1.y.bytes.length c1) 123 1 (i16s x1.y.bytes), Z1], a3, c3, pa, pc, by simp, by rw [← hxn]; simp, ?_, ?_, ?_, sep2_r.trans h3, rfl⟩ ?_
      · subst h1
        refine hkeep _ _ (sep2_r.trans h3) ⟨g1.ent sep2_r, g2, g3.ent sep2_r, g4, g5, g6, g7, g8, ?_⟩
        dsimp only
        rw [List.length_append, List.length_map, List.length_singleton]
        omega
      · intro e he
        rcases List.mem_append.1 he with he | he
        · exact (heo e he).ent (sep2_r.trans h3)
        · simp only [List.mem_singleton] at he
          subst he
          exact ⟨hs1.ent sep2_l, hc1, g3.ent sep2_r, g4, g5, g6⟩
      · intro x' hx'
        rw [List.getElem?_append_right (by omega), hxs1, Nat.sub_self] at hx'
        simp only [List.getElem?_cons_zero, Option.some.injEq] at hx'
        subst hx'
        subst h1
        exact ⟨by simp [LE.lv], rfl, rfl⟩
      · unfold SH
        subst h1
        have hfl : (es ++ [(⟨x1.y.bytes, x1.y.wrote, a1, c1, x1.wa, x1.wc⟩ : LE)]).flatMap leCells = es.flatMap leCells ++ [.slice a1 x1.y.bytes.length c1, .slice x1.wa x1.y.wrote.length x1.wc] := by rw [List.flatMap_append]; rfl
        have hx2 : (xs1 ++ (⟨{ x1.y with levels := es.map LE.lv ++ [(x1.y.bytes, x1.y.wrote)] }, x1.va, x1.vc, x1.wa, x1.wc, a3, c3⟩ : LV) :: xs2).length = xn := by rw [← hxn]; simp
        have hl1 : (es.map LE.lv ++ [(x1.y.bytes, x1.y.wrote)]).length = es.length + 1 := by simp
        have hl2 : (es ++ [(⟨x1.y.bytes, x1.y.wrote, a1, c1, x1.wa, x1.wc⟩ : LE)]).length = es.length + 1 := by simp
        rw [lv_split, hpr, hpo, hfl, hx2, hl2]
        dsimp only
        rw [hl1, hbk.1, hbk.2]
        exact (arr_ent 1 [4, 1, 0, 2, 0, 1] _).trans (Ent.append [_, _] ((sep_shut [_, _] _).trans (Ent.append [_] slG_P)))
end
end Go.Proofs.YtfebpbflpdppiaaGreatDoor
namespace Go.Proofs.YtfebpbflpdppiaaGreatDoor
open Go Go.Sl
set_option maxRecDepth 100000
section
variable {P : Program} {σ : Env} {ty : TypeId} {pos : String} {aft : Array Edge} {gd : Option (Nat × Bool)} {x y z : Operand} {t e : TypeId}
/-- s[:hi:mx] of a slice -/
theorem r_sl3 {od : Option Tmp} {size bytes len cap : Nat} {zv : Value} {tb o : Nat} {k k' : IntKind} {hi mx : Nat} [h1 : TyU P t (.slice e)] [h2 : TyI P e size bytes zv] (hx : opd σ x = some (.slice (some ⟨tb, o, none⟩) len cap)) (hy : opd σ y = some (.int k (hi : Nat))) (hz : opd σ z = some (.int k' (mx : Nat))) (hhi : hi ≤ mx) (hmx : mx ≤ cap) :
    RunS P ⟨od, .slice t x none (some y) (some z), ty, pos, aft, gd⟩ σ (.slice (some ⟨tb, o, none⟩) hi mx) := fun c w g => by
  simp only [execOp, Option.map_some, Option.map_none, opd_eval g hx, opd_eval g hy, opd_eval g hz]
  simp [Instr.sliceAt, run_und h1, Instr.slice, Instr.sliceBounds, run_bound (P := P) w rfl (show 0 ≤ (hi : Int) ∧ (hi : Int) ≤ mx from ⟨by omega, by omega⟩), run_bound (P := P) w rfl (show 0 ≤ (mx : Int) ∧ (mx : Int) ≤ cap from ⟨by omega, by omega⟩), Go.Sl.run_sizeOf h2, Addr.add_lit]
end
theorem sum_last {α : Type} {l : List α} (h : l ≠ []) : ∃ l0 e, l = l0 ++ [e] := ⟨l.dropLast, l.getLast h, (List.dropLast_concat_getLast h).symm⟩
def lastL (x : Ly) : List Int × List Bool := x.levels.getLast?.getD ([], [])
/-- behind a rollback -/
def rollF (s : SS) (j : Nat) (x : Ly) : SS := { s with ys := s.ys.set (j + 1) { x with bytes := (lastL x).1, wrote := (lastL x).2, levels := x.levels.dropLast } }
/-- behind an end -/
def endY (s : SS) (j : Nat) (x : Ly) : List Ly := s.ys.set (j + 1) { x with levels := x.levels.dropLast }
def endF (s : SS) (j : Nat) (x : Ly) : SS :=
  if 1 < x.levels.length then { s with ys := endY s j x }
  else if benF (endY s j x) (j + 1) = true then { s with ys := endY s j x, ls := true }
  else if belowF x.wrote x.bytes.length = false then { s with ys := becF (endY s j x) j x.bytes, ls := decide (x.bytes.length ≠ (viewF (endY s j x) j).length), vg := true }
  else { s with ys := becF (endY s j x) j x.bytes, pts := if j + 1 = topF (endY s j x) then s.pts ++ [(x.bytes.length : Int)] else s.pts }
theorem le_get (es : List LE) (e : LE) (rest : List Value) (jj : Nat) (v : Value) (h : (leCells e)[jj]? = some v) : ((es ++ [e]).flatMap leCells ++ rest)[0 + es.length * 2 + jj]? = some v := by
  have h2 : jj < 2 := (List.getElem?_eq_some_iff.1 h).1
  have hl := leCells_flen es
  rw [List.flatMap_append, List.append_assoc, List.getElem?_append_right (by omega), hl, show 0 + es.length * 2 + jj - es.length * 2 = jj from by omega, List.flatMap_singleton, List.getElem?_append_left (show jj < (leCells e).length from h2)]
  exact h
attribute [local irreducible] wpList Code.wp Exit.then Exit.inBlock bodyPost RunS RunV G St Ct Sat Ent At Rd GQ QL wpAny wpOp wpQuiet slP Sl.ex sep
section
variable {Z : HP} {sb lb lcap pc lc : Nat} {pa la : Option Addr} {rest : List Value} {xs : List LV} {es : List LE} {s : SS}
set_option maxHeartbeats 4000000 in
/-- where there is no transaction -/
theorem perm_c (_hxl : xs.length ≤ 1000) (hok : ∀ x ∈ xs, LVok Z x) (hys : xs.map (·.y) = s.ys) (j : Nat) (x : LV) (hx : xs[j + 1]? = some x) (hkd : x.y.kd = .roll) (hlv : x.y.levels = []) (hla : x.la = la) (hlc : x.lc = lc) (st : ByteArray) (hst : (st.data.toList == sBegin.data.toList) = false) :
    Ct Tryz.prog 42 #[.pointer (some ⟨sb, 0, none⟩), .int .i64 (j + 1 : Nat), .string st] (SH sb lb lcap rest xs [] Z la lc pa pc s.pts s.ls s.vg s.ms)
      (DeR Z sb lb lcap rest xs.length (j + 1) (s, 3)) nev := by
  have h0 : j + 1 < xs.length := (List.getElem?_eq_some_iff.1 hx).1
  have hll : x.y.levels.length = 0 := by rw [hlv]; rfl
  refine Ct.of Tryz.func42 rfl Tryz.ntmps42 rfl fun m F => ?_
  unfold SH
  repeat (first | refine wZ ?_ | intro b)
  refine l_plain rfl ?_
  apply s_val rfl rfl
  · exact RunS.v (r_index (i := j + 1) rfl rfl rfl h0)
  repeat (first | refine wZ ?_ | intro b)
  rw [decide_eq_false (by omega : ¬ ((j + 1 : Nat) : Int) = 0)]
  repeat (first | refine wZ ?_ | intro b)
  refine l_plain rfl ?_
  apply s_val (v := .string sRb) rfl rfl
  · exact r_load rfl rfl (rd_blk 1 rfl ((lc_get hx 0 (by decide)).trans (by rw [lvCells, hkd]; rfl)))
  repeat (first | refine wZ ?_ | intro b)
  refine l_plain rfl ?_
  apply s_val (v := .slice la 0 lc) rfl rfl
  · exact r_load rfl rfl (rd_blk 1 rfl ((lc_get hx 5 (by decide)).trans (by rw [lvCells, hll, hla, hlc]; rfl)))
  repeat (first | refine wZ ?_ | intro b)
  have hst2 : (st.data.toList == [98, 101, 103, 105, 110]) = false := hst
  rw [hst2]
  repeat (first | refine wZ ?_ | intro b)
  rw [decide_eq_true (by rfl : ((0 : Nat) : Int) = 0)]
  repeat (first | refine wZ ?_ | intro b)
  exact e_ret1 _ rfl rfl ⟨rfl, xs, [], Z, la, lc, pa, pc, hys, rfl, hok, fun _ h => by simp at h, fun x' hx' => by
    rw [hx] at hx'
    cases hx'
    exact ⟨hlv, hla, hlc⟩, Ent.refl _, rfl⟩ (Ent.refl _)
set_option maxHeartbeats 16000000 in
/-- the rollback of a transaction -/
theorem rollback_c (hxl : xs.length ≤ 1000) (hok : ∀ x ∈ xs, LVok Z x) (hys : xs.map (·.y) = s.ys) (e : LE) (heo : ∀ e' ∈ es ++ [e], LEok Z e') (j : Nat) (x : LV) (hx : xs[j + 1]? = some x) (hkd : x.y.kd = .roll) (hlv : x.y.levels = (es ++ [e]).map LE.lv) (hla : x.la = la) (hlc : x.lc = lc) (hel : es.length ≤ 500) :
    Ct Tryz.prog 42 #[.pointer (some ⟨sb, 0, none⟩), .int .i64 (j + 1 : Nat), .string sRoll] (SH sb lb lcap rest xs (es ++ [e]) Z la lc pa pc s.pts s.ls s.vg s.ms)
      (DeR Z sb lb lcap rest xs.length (j + 1) (rollF s j x.y, 0)) nev := by
  have hxo := hok x (List.mem_of_getElem? hx)
  have heo' := heo e (by simp)
  have h0 : j + 1 < xs.length := (List.getElem?_eq_some_iff.1 hx).1
  have hrF : rollF s j x.y = { s with ys := s.ys.set (j + 1) { x.y with bytes := e.p, wrote := e.q, levels := es.map LE.lv } } := by
    unfold rollF lastL
    rw [hlv]
    simp [LE.lv]
  have hll : x.y.levels.length = es.length + 1 := by rw [hlv]; simp
  have hel2 : (es ++ [e]).length = es.length + 1 := by simp
  rw [hrF]
  obtain ⟨xs1, xs2, rfl, hxs1⟩ := split_at hx
  have hpre := pre_len hxs1
  have hset : s.ys = xs1.map (·.y) ++ x.y :: xs2.map (·.y) := by rw [← hys]; simp
  rw [hset, set_split (by simpa using hxs1)]
  unfold SH
  rw [lv_split, hel2]
  have hkeep : ∀ x' : LV, LVok Z x' → ∀ y ∈ xs1 ++ x' :: xs2, LVok Z y := fun x' h y hy => by
    rcases List.mem_append.1 hy with h1 | h1
    · exact hok y (by simp [h1])
    · rcases List.mem_cons.1 h1 with rfl | h1
      · exact h
      · exact hok y (by simp [h1])
  generalize hpr : xs1.flatMap lvCells = pre at hpre ⊢
  generalize hpo : xs2.flatMap lvCells ++ rest = post
  obtain ⟨⟨kd, off, bytes, wrote, shadow, levels⟩, va, vc, wa, wc, la', lc'⟩ := x
  obtain ⟨hb1, hb2, hb3, hb4, hb5, hb6, hb7, hb8, hb9⟩ := hxo
  dsimp only at hkd hlv hla hlc hll hb1 hb2 hb3 hb4 hb5 hb6 hb7 hb8 hb9 ⊢
  subst hkd hla hlc
  rw [hll]
  generalize hxn : (xs1 ++ (⟨⟨.roll, off, bytes, wrote, shadow, levels⟩, va, vc, wa, wc, la', lc'⟩ : LV) :: xs2).length = xn at h0
  refine Ct.of Tryz.func42 rfl Tryz.ntmps42 rfl fun m F => ?_
  repeat (first | refine wZ ?_ | intro b)
  refine l_plain rfl ?_
  apply s_val rfl rfl
  · exact RunS.v (r_index (i := j + 1) rfl rfl rfl h0)
  repeat (first | refine wZ ?_ | intro b)
  rw [decide_eq_false (by omega : ¬ ((j + 1 : Nat) : Int) = 0)]
  repeat (first | refine wZ ?_ | intro b)
  refine l_plain rfl ?_
  apply s_val (v := .string sRb) rfl rfl
  · exact r_load rfl rfl (rd_blk 1 rfl (lw_get hpre 0 (by decide)))
  repeat (first | refine wZ ?_ | intro b)
  refine l_plain rfl ?_
  apply s_val (v := .slice la' (es.length + 1) lc') rfl rfl
  · exact r_load rfl rfl (rd_blk 1 rfl (lw_get hpre 5 (by decide)))
  repeat (first | refine wZ ?_ | intro b)
  refine G.ent (Ent.trans (arr_ent 0 [3] _) (Ent.refl _)) ?_
  refine slG_open (fun _ h => absurd h (by omega)) (fun tb rest2 q1 q2 q3 q4 q5 => ?_)
  subst q1
  refine l_plain rfl ?_
  apply s_val (v := .slice (some ⟨tb, 0, none⟩) (es.length + 1) lc') rfl rfl
  · exact r_load rfl rfl (rd_blk 2 rfl (lw_get hpre 5 (by decide)))
  repeat (first | refine wZ ?_ | intro b)
  rw [show es.length + 1 - 1 = es.length from by omega]
  refine l_plain rfl ?_
  apply s_val (v := .pointer (some ⟨tb, 0 + es.length * 2, none⟩)) rfl rfl
  · exact RunS.v (r_index (i := es.length) rfl rfl rfl (by omega))
  refine l_plain rfl ?_
  apply s_val (v := .agg (leCells e).toArray) rfl rfl
  · exact r_loadN (vs := leCells e) rfl rfl rfl (RdN.of fun jj v hv => rd_blk 0 rfl (le_get es e rest2 jj v hv))
  repeat (first | refine wY ?_ | intro b)
  revert b; intro tb9
  refine G.ent (L' := blk tb9 (cl (leCells e) 139) :: _) (Ent.refl _) ?_
  refine l_plain rfl ?_
  apply s_val (v := .slice (some ⟨tb, 0, none⟩) (es.length + 1) lc') rfl rfl
  · exact r_load rfl rfl (rd_blk 3 rfl (lw_get hpre 5 (by decide)))
  repeat (first | refine wY ?_ | intro b)
  rw [show es.length + 1 - 1 = es.length from by omega]
  refine l_plain rfl ?_
  apply s_val (v := .slice (some ⟨tb, 0, none⟩) es.length es.length) rfl rfl
  · exact RunS.v (r_sl3 rfl rfl rfl (by omega) (by omega))
  repeat (first | refine wY ?_ | intro b)
  refine l_plain rfl ?_
  refine s_store (i := 3) rfl rfl rfl rfl rfl rfl (lw_lt hpre 5 (by decide)) ?_
  rw [lw_set hpre 5 (by decide)]
  simp only [List.set_cons_succ, List.set_cons_zero]
  repeat (first | refine wY ?_ | intro b)
  have hE : ∀ (A : HP) (R : List HP), Ent (A :: blk tb9 (cl (leCells e) 139) :: R) [blk tb9 (cl (leCells e) 139)] := fun A R => Ent.drop.trans (Ent.left [_] _)
  refine h_any [blk tb9 (cl (leCells e) 139)] 12 rfl ?_
  repeat' first
    | refine h_take (hE _ _) 0 rfl (by kernel_rfl) (by kernel_rfl) (by decide +kernel) rfl rfl rfl pQ rV ?_
    | refine h_take (hE _ _) 1 rfl (by kernel_rfl) (by kernel_rfl) (by decide +kernel) rfl rfl rfl pQ rV ?_
    | refine h_take (hE _ _) 2 rfl (by kernel_rfl) (by kernel_rfl) (by decide +kernel) rfl rfl rfl pQ rV ?_
    | refine h_take (hE _ _) 4 rfl (by kernel_rfl) (by kernel_rfl) (by decide +kernel) rfl rfl rfl pQ rV ?_
    | refine h_take (hE _ _) 6 rfl (by kernel_rfl) (by kernel_rfl) (by decide +kernel) rfl rfl rfl pQ rV ?_
    | refine h_take (hE _ _) 7 rfl (by kernel_rfl) (by kernel_rfl) (by decide +kernel) rfl rfl rfl pQ rV ?_
    | refine h_take (hE _ _) 9 rfl (by kernel_rfl) (by kernel_rfl) (by decide +kernel) rfl rfl rfl pQ rV ?_
    | refine h_take (hE _ _) 10 rfl (by kernel_rfl) (by kernel_rfl) (by decide +kernel) rfl rfl rfl pQ rV ?_
    | refine h_take (v := .slice e.pa e.p.length e.pc) (hE _ _) 3 rfl (by kernel_rfl) (by kernel_rfl) (by decide +kernel) rfl rfl rfl pQ (r_load rfl rfl (rd_blk 0 rfl rfl)) ?_
    | refine h_take (v := .slice e.qa e.q.length e.qc) (hE _ _) 5 rfl (by kernel_rfl) (by kernel_rfl) (by decide +kernel) rfl rfl rfl pQ (r_load rfl rfl (rd_blk 0 rfl rfl)) ?_
    | refine h_two 8 11 (by decide +kernel) rfl rfl rfl rfl ?_ ?_
    | refine h_one 8 (by decide +kernel) rfl rfl ?_
    | refine h_one 11 (by decide +kernel) rfl rfl ?_
    | (refine s_store (i := 0) rfl rfl rfl rfl rfl rfl (lw_lt hpre 2 (by decide)) ?_; rw [lw_set hpre 2 (by decide)]; simp only [List.set_cons_succ, List.set_cons_zero]; refine h_then (hE _ _) ?_)
    | (refine s_store (i := 0) rfl rfl rfl rfl rfl rfl (lw_lt hpre 3 (by decide)) ?_; rw [lw_set hpre 3 (by decide)]; simp only [List.set_cons_succ, List.set_cons_zero]; refine h_then (hE _ _) ?_)
    | refine h_done (by decide +kernel) ?_
    | fail
  refine q_then_n ?_
  repeat (first | refine wY ?_ | intro b)
  refine e_ret1 _ rfl rfl ⟨rfl, xs1 ++ ⟨⟨.roll, off, e.p, e.q, shadow, es.map LE.lv⟩, e.pa, e.pc, e.qa, e.qc, some ⟨tb, 0, none⟩, es.length⟩ :: xs2, es, Z, some ⟨tb, 0, none⟩, es.length, pa, pc, by simp, by rw [← hxn]; simp, hkeep _ ⟨heo'.b, heo'.bc, heo'.w, heo'.wc, heo'.bn, heo'.wn, hb7, hb8, by dsimp only; rw [List.length_map]; omega⟩, fun e' he => heo e' (by simp [he]), ?_, Ent.refl _, rfl⟩ ?_
  · intro x' hx'
    rw [List.getElem?_append_right (by omega), hxs1, Nat.sub_self] at hx'
    simp only [List.getElem?_cons_zero, Option.some.injEq] at hx'
    subst hx'
    exact ⟨rfl, rfl, rfl⟩
  · unfold SH
    have hx2 : (xs1 ++ (⟨⟨.roll, off, e.p, e.q, shadow, es.map LE.lv⟩, e.pa, e.pc, e.qa, e.qc, some ⟨tb, 0, none⟩, es.length⟩ : LV) :: xs2).length = xn := by rw [← hxn]; simp
    have hfl : (es ++ [e]).flatMap leCells ++ rest2 = es.flatMap leCells ++ (leCells e ++ rest2) := by rw [List.flatMap_append, List.append_assoc, List.flatMap_singleton]
    rw [lv_split, hpr, hpo, hx2, hfl]
    dsimp only
    rw [List.length_map]
    exact (arr_ent 1 [3, 0, 2, 1, 1] _).trans (Ent.append [_, _, _] (slG_full (leCells_flen es) (by simp only [maxLen]; omega)))
end
end Go.Proofs.YtfebpbflpdppiaaGreatDoor
namespace Go.Proofs.YtfebpbflpdppiaaGreatDoor
open Go Go.Sl
set_option maxRecDepth 100000
theorem be_lev {xs xs' : List LV} {k j : Nat} {p : List Int} {x : LV} (h : xs'.map (·.y) = becF (xs.map (·.y)) k p) (h2 : xs'.map LV.lac = xs.map LV.lac) (hx : xs[j + 1]? = some x) (x' : LV) (hx' : xs'[j + 1]? = some x') : x'.y = x.y ∧ x'.la = x.la ∧ x'.lc = x.lc := by
  have e1 : (xs'.map (·.y))[j + 1]? = some x'.y := by rw [List.getElem?_map, hx']; rfl
  have e2 : (becF (xs.map (·.y)) k p)[j + 1]? = some x.y := by
    unfold becF
    split
    · rw [List.getElem?_set, if_neg (by omega), List.getElem?_map, hx]; rfl
    · rw [List.getElem?_map, hx]; rfl
  have e3 : (xs'.map LV.lac)[j + 1]? = some x'.lac := by rw [List.getElem?_map, hx']; rfl
  have e4 : (xs.map LV.lac)[j + 1]? = some x.lac := by rw [List.getElem?_map, hx]; rfl
  rw [h, e2] at e1
  rw [h2, e4] at e3
  unfold LV.lac at e3
  simp only [Option.some.injEq, Prod.mk.injEq] at e1 e3
  exact ⟨e1.symm, e3.1.symm, e3.2.symm⟩
theorem dec_ne (a c : Nat) : decide (a ≠ c) = !decide ((a : Int) = (c : Nat)) := by
  by_cases h : a = c
  · rw [h]; simp
  · rw [decide_eq_true h, decide_eq_false (by omega)]; rfl
attribute [local irreducible] wpList Code.wp Exit.then Exit.inBlock bodyPost RunS RunV G St Ct Sat Ent At Rd GQ QL wpAny wpOp wpQuiet slP Sl.ex sep
section
variable {Z : HP} {sb lb lcap pc lc : Nat} {pa la : Option Addr} {rest : List Value} {xs : List LV} {es : List LE} {s : SS}
set_option maxHeartbeats 16000000 in
/-- the end of a transaction -/
theorem end_c (hxl : xs.length ≤ 1000) (hok : ∀ x ∈ xs, LVok Z x) (hys : xs.map (·.y) = s.ys) (e : LE) (heo : ∀ e' ∈ es ++ [e], LEok Z e') (j : Nat) (x : LV) (hx : xs[j + 1]? = some x) (hkd : x.y.kd = .roll) (hlv : x.y.levels = (es ++ [e]).map LE.lv) (hla : x.la = la) (hlc : x.lc = lc) (hel : es.length ≤ 500) (hpts : s.pts.length ≤ 1000) (hB : StB xs) (hO : oSum (endY s j x.y) j ≤ 1000000) (hres : es = [] → benF (endY s j x.y) (j + 1) = false → ∀ y ∈ becF (endY s j x.y) j x.y.bytes, y.small) :
    Ct Tryz.prog 42 #[.pointer (some ⟨sb, 0, none⟩), .int .i64 (j + 1 : Nat), .string sEnd] (SH sb lb lcap rest xs (es ++ [e]) Z la lc pa pc s.pts s.ls s.vg s.ms)
      (DeR Z sb lb lcap rest xs.length (j + 1) (endF s j x.y, 0)) nev := by
  have hxo := hok x (List.mem_of_getElem? hx)
  have heo' := heo e (by simp)
  have h0 : j + 1 < xs.length := (List.getElem?_eq_some_iff.1 hx).1
  have heY : endY s j x.y = s.ys.set (j + 1) { x.y with levels := es.map LE.lv } := by
    unfold endY
    rw [hlv]
    simp
  have hll : x.y.levels.length = es.length + 1 := by rw [hlv]; simp
  have hel2 : (es ++ [e]).length = es.length + 1 := by simp
  obtain ⟨xs1, xs2, rfl, hxs1⟩ := split_at hx
  have hpre := pre_len hxs1
  have hset : s.ys = xs1.map (·.y) ++ x.y :: xs2.map (·.y) := by rw [← hys]; simp
  unfold SH
  rw [lv_split, hel2]
  have hkeep : ∀ x' : LV, LVok Z x' → ∀ y ∈ xs1 ++ x' :: xs2, LVok Z y := fun x' h y hy => by
    rcases List.mem_append.1 hy with h1 | h1
    · exact hok y (by simp [h1])
    · rcases List.mem_cons.1 h1 with rfl | h1
      · exact h
      · exact hok y (by simp [h1])
  generalize hpr : xs1.flatMap lvCells = pre at hpre ⊢
  generalize hpo : xs2.flatMap lvCells ++ rest = post
  obtain ⟨⟨kd, off, bytes, wrote, shadow, levels⟩, va, vc, wa, wc, la', lc'⟩ := x
  obtain ⟨hb1, hb2, hb3, hb4, hb5, hb6, hb7, hb8, hb9⟩ := hxo
  dsimp only at hkd hlv hla hlc hll hb1 hb2 hb3 hb4 hb5 hb6 hb7 hb8 hb9 ⊢
  subst hkd hla hlc
  rw [hll]
  generalize hxn : (xs1 ++ (⟨⟨.roll, off, bytes, wrote, shadow, levels⟩, va, vc, wa, wc, la', lc'⟩ : LV) :: xs2).length = xn at h0
  refine Ct.of Tryz.func42 rfl Tryz.ntmps42 rfl fun m F => ?_
  repeat (first | refine wZ ?_ | intro b)
  refine l_plain rfl ?_
  apply s_val rfl rfl
  · exact RunS.v (r_index (i := j + 1) rfl rfl rfl h0)
  repeat (first | refine wZ ?_ | intro b)
  rw [decide_eq_false (by omega : ¬ ((j + 1 : Nat) : Int) = 0)]
  repeat (first | refine wZ ?_ | intro b)
  refine l_plain rfl ?_
  apply s_val (v := .string sRb) rfl rfl
  · exact r_load rfl rfl (rd_blk 1 rfl (lw_get hpre 0 (by decide)))
  repeat (first | refine wZ ?_ | intro b)
  refine l_plain rfl ?_
  apply s_val (v := .slice la' (es.length + 1) lc') rfl rfl
  · exact r_load rfl rfl (rd_blk 1 rfl (lw_get hpre 5 (by decide)))
  repeat (first | refine wZ ?_ | intro b)
  refine G.ent (Ent.trans (arr_ent 0 [3] _) (Ent.refl _)) ?_
  refine slG_open (fun _ h => absurd h (by omega)) (fun tb rest2 q1 q2 q3 q4 q5 => ?_)
  subst q1
  refine l_plain rfl ?_
  apply s_val (v := .slice (some ⟨tb, 0, none⟩) (es.length + 1) lc') rfl rfl
  · exact r_load rfl rfl (rd_blk 2 rfl (lw_get hpre 5 (by decide)))
  repeat (first | refine wZ ?_ | intro b)
  rw [show es.length + 1 - 1 = es.length from by omega]
  refine l_plain rfl ?_
  apply s_val (v := .pointer (some ⟨tb, 0 + es.length * 2, none⟩)) rfl rfl
  · exact RunS.v (r_index (i := es.length) rfl rfl rfl (by omega))
  refine l_plain rfl ?_
  apply s_val (v := .agg (leCells e).toArray) rfl rfl
  · exact r_loadN (vs := leCells e) rfl rfl rfl (RdN.of fun jj v hv => rd_blk 0 rfl (le_get es e rest2 jj v hv))
  repeat (first | refine wY ?_ | intro b)
  revert b; intro tb9
  refine G.ent (L' := blk tb9 (cl (leCells e) 139) :: _) (Ent.refl _) ?_
  refine l_plain rfl ?_
  apply s_val (v := .slice (some ⟨tb, 0, none⟩) (es.length + 1) lc') rfl rfl
  · exact r_load rfl rfl (rd_blk 3 rfl (lw_get hpre 5 (by decide)))
  repeat (first | refine wY ?_ | intro b)
  rw [show es.length + 1 - 1 = es.length from by omega]
  refine l_plain rfl ?_
  apply s_val (v := .slice (some ⟨tb, 0, none⟩) es.length es.length) rfl rfl
  · exact RunS.v (r_sl3 rfl rfl rfl (by omega) (by omega))
  repeat (first | refine wY ?_ | intro b)
  refine l_plain rfl ?_
  refine s_store (i := 3) rfl rfl rfl rfl rfl rfl (lw_lt hpre 5 (by decide)) ?_
  rw [lw_set hpre 5 (by decide)]
  simp only [List.set_cons_succ, List.set_cons_zero]
  repeat (first | refine wY ?_ | intro b)
  obtain ⟨xs', hxs'⟩ : ∃ xs' : List LV, xs' = xs1 ++ (⟨⟨.roll, off, bytes, wrote, shadow, es.map LE.lv⟩, va, vc, wa, wc, some ⟨tb, 0, none⟩, es.length⟩ : LV) :: xs2 := ⟨_, rfl⟩
  have hys2 : xs'.map (·.y) = endY s j ⟨.roll, off, bytes, wrote, shadow, levels⟩ := by rw [heY, hset, set_split (by simpa using hxs1), hxs']; simp
  have hlen : xs'.length = xn := by rw [← hxn, hxs']; simp
  rw [hxn] at hxl
  have hok2 : ∀ x ∈ xs', LVok Z x := by rw [hxs']; exact hkeep _ ⟨hb1, hb2, hb3, hb4, hb5, hb6, hb7, hb8, by dsimp only; rw [List.length_map]; omega⟩
  have hx2 : xs'[j + 1]? = some ⟨⟨.roll, off, bytes, wrote, shadow, es.map LE.lv⟩, va, vc, wa, wc, some ⟨tb, 0, none⟩, es.length⟩ := by
    rw [hxs', List.getElem?_append_right (by omega), hxs1, Nat.sub_self]
    rfl
  have hB2 : StB xs' := by
    intro k y hy
    by_cases hk : k = j
    · subst hk
      rw [hx2] at hy
      cases hy
      exact fun h => by cases h
    · refine hB k y ?_
      rw [hxs'] at hy
      rw [← hy]
      by_cases h1 : k + 1 < xs1.length
      · rw [List.getElem?_append_left h1, List.getElem?_append_left h1]
      · rw [List.getElem?_append_right (by omega), List.getElem?_append_right (by omega), show k + 1 - xs1.length = (k - j - 1) + 1 from by omega, List.getElem?_cons_succ, List.getElem?_cons_succ]
  have hcell : xs'.flatMap lvCells ++ rest = pre ++ ([.string KD.roll.s, .int .i64 (off : Nat), .slice va bytes.length vc, .slice wa wrote.length wc, .int .i64 (shadow : Nat), .slice (some ⟨tb, 0, none⟩) es.length es.length] ++ post) := by
    rw [hxs', lv_split, hpr, hpo]
    dsimp only
    rw [List.length_map]
  have hfl : (es ++ [e]).flatMap leCells ++ rest2 = es.flatMap leCells ++ (leCells e ++ rest2) := by rw [List.flatMap_append, List.append_assoc, List.flatMap_singleton]
  rw [← hcell, hfl]
  refine G.ent (Ent.trans (arr_ent 1 [3, 0, 2, 1, 1] _) (Ent.append [_, _, _] (slG_full (leCells_flen es) (by simp only [maxLen]; omega)))) ?_
  unfold endF
  dsimp only
  rw [hll, ← hys2]
  rw [← hys2] at hO hres
  have hlast : ∀ x', xs'[j + 1]? = some x' → x'.y.levels = es.map LE.lv ∧ x'.la = some ⟨tb, 0, none⟩ ∧ x'.lc = es.length := fun x' h => by
    rw [hx2] at h
    cases h
    exact ⟨rfl, rfl, rfl⟩
  subst hlen
  clear heY hset hx hok hB hys
  by_cases hn : 1 < es.length + 1
  · rw [decide_eq_true (by omega : (1 : Int) < ((es.length + 1 : Nat) : Int)), if_pos hn]
    repeat (first | refine wZ ?_ | intro b)
    exact e_ret1 _ rfl rfl ⟨rfl, xs', es, Z, _, _, pa, pc, rfl, rfl, hok2, fun e' he => heo e' (by simp [he]), hlast, Ent.refl _, rfl⟩ (Ent.refl _)
  · rw [decide_eq_false (by omega : ¬ (1 : Int) < ((es.length + 1 : Nat) : Int)), if_neg hn]
    have hes : es = [] := List.length_eq_zero_iff.1 (by omega)
    subst hes
    repeat (first | refine wZ ?_ | intro b)
    refine l_plain rfl (s_call rfl rfl (beneath_c hxl (j + 1) h0 (by omega)) [0, 0] rfl ?_ (fun _ _ h => h.elim))
    rintro _ _ ⟨rfl, rfl⟩
    by_cases hbn : benF (xs'.map (·.y)) (j + 1) = true
    · rw [hbn, if_pos rfl]
      repeat (first | refine wZ ?_ | intro b)
      exact e_ret1 _ rfl rfl ⟨rfl, xs', [], Z, _, _, pa, pc, rfl, rfl, hok2, fun e' he => by simp at he, hlast, Ent.refl _, rfl⟩ (Ent.refl _)
    · rw [Bool.not_eq_true] at hbn
      have hres := hres rfl hbn
      rw [hbn, if_neg (by simp)]
      repeat (first | refine wZ ?_ | intro b)
      apply qt_val (v := .slice wa wrote.length wc) rfl rfl rfl
      · exact r_load rfl rfl (rd_blk 1 rfl (lc_get hx2 3 (by decide)))
      repeat (first | refine wZ ?_ | intro b)
      apply qt_val (v := .slice va bytes.length vc) rfl rfl rfl
      · exact r_load rfl rfl (rd_blk 1 rfl (lc_get hx2 2 (by decide)))
      repeat (first | refine wZ ?_ | intro b)
      refine qt_call rfl rfl (below_c wrote wa wrote.length wc bytes.length hb3 (by omega) (by omega)) [2] rfl (arr_ent 0 [1, 1, 0] _) ?_
      have hvw := view_c (sb := sb) (lb := lb) (lcap := lcap) (rest := rest) (p1 := .slice pa s.pts.length pc) (p2 := .bool s.ls) (p3 := .bool s.vg) (p4 := .bool s.ms) hxl hok2 hB2 j (by omega)
      have hvb := viewF_le hok2 j
      apply qt_val rfl rfl rfl
      · exact RunS.v (r_not rfl)
      refine qt_nil ?_
      cases hbl : belowF wrote bytes.length with
      | false =>
        rw [if_pos rfl]
        repeat (first | refine wY ?_ | intro b)
        refine G.ent (L' := blk sb (cl [.slice (some ⟨lb, 0, none⟩) xs'.length lcap, .slice pa s.pts.length pc, .bool s.ls, .bool s.vg, .bool s.ms] 75) :: blk lb (cl (xs'.flatMap lvCells ++ rest) 80) :: Z :: slG (.slice (some ⟨tb, 0, none⟩) 0 0) 139 2 [] :: slP (.slice pa s.pts.length pc) 2 1 (ints s.pts) :: F) (Ent.refl _) ?_
        refine h_any [blk lb (cl (xs'.flatMap lvCells ++ rest) 80)] 15 rfl ?_
        have hE : ∀ (A : HP) (R : List HP), Ent (A :: blk lb (cl (xs'.flatMap lvCells ++ rest) 80) :: R) [blk lb (cl (xs'.flatMap lvCells ++ rest) 80)] := fun A R => Ent.drop.trans (Ent.left [_] _)
        refine h_take (hE _ _) 0 rfl (by kernel_rfl) (by kernel_rfl) (by kernel_rfl) rfl rfl rfl pQ rV ?_
        refine h_take (hE _ _) 1 rfl (by kernel_rfl) (by kernel_rfl) (by kernel_rfl) rfl rfl rfl pQ rV ?_
        refine h_take (hE _ _) 2 rfl (by kernel_rfl) (by kernel_rfl) (by kernel_rfl) rfl rfl rfl pQ rV ?_
        refine h_take (hE _ _) 3 rfl (by kernel_rfl) (by kernel_rfl) (by kernel_rfl) rfl rfl rfl pQ rV ?_
        refine h_take (v := .slice va bytes.length vc) (hE _ _) 4 rfl (by kernel_rfl) (by kernel_rfl) (by kernel_rfl) rfl rfl rfl pQ (r_load rfl rfl (rd_blk 0 rfl (lc_get hx2 2 (by decide)))) ?_
        refine h_take (hE _ _) 5 rfl (by kernel_rfl) (by kernel_rfl) (by kernel_rfl) rfl rfl rfl pQ rV ?_
        refine h_take (hE _ _) 6 rfl (by kernel_rfl) (by kernel_rfl) (by kernel_rfl) rfl rfl rfl pQ rV ?_
        refine h_take (hE _ _) 7 rfl (by kernel_rfl) (by kernel_rfl) (by kernel_rfl) rfl rfl rfl pQ rV ?_
        refine h_take (hE _ _) 8 rfl (by kernel_rfl) (by kernel_rfl) (by kernel_rfl) rfl rfl rfl pQ rV ?_
        refine h_one 9 (by kernel_rfl) rfl rfl ?_
        refine s_call rfl rfl hvw [0, 0] rfl ?_ (fun _ _ h => h.elim)
        rintro _ _ ⟨⟨a1, c1, rfl, hv1, hv2⟩, rfl⟩
        refine h_then (hE _ _) ?_
        refine h_take (hE _ _) 10 rfl (by kernel_rfl) (by kernel_rfl) (by kernel_rfl) rfl rfl rfl pQ rV ?_
        refine h_take (hE _ _) 11 rfl (by kernel_rfl) (by kernel_rfl) (by kernel_rfl) rfl rfl rfl pQ rV ?_
        refine h_take (hE _ _) 12 rfl (by kernel_rfl) (by kernel_rfl) (by kernel_rfl) rfl rfl rfl pQ rV ?_
        refine h_take (hE _ _) 13 rfl (by kernel_rfl) (by kernel_rfl) (by kernel_rfl) rfl rfl rfl pQ rV ?_
        refine h_one 14 (by kernel_rfl) rfl rfl ?_
        refine s_store (i := 0) rfl rfl rfl rfl rfl rfl rfl ?_
        refine h_then (hE _ _) ?_
        refine h_done (by kernel_rfl) ?_
        refine q_then_n ?_
        repeat (first | refine wZ ?_ | intro b)
        refine l_plain rfl ?_
        apply s_val (v := .slice va bytes.length vc) rfl rfl
        · exact r_load rfl rfl (rd_blk 1 rfl (lc_get hx2 2 (by decide)))
        refine l_plain rfl (s_call rfl rfl (become_c hxl hok2 j (by omega) bytes va vc hb1 hO hres) [0, 0, 0] rfl ?_ (fun _ _ h => h.elim))
        rintro v B ⟨xs'', Z', r1, ⟨r2, r3⟩, r4, r5, rfl⟩
        repeat (first | refine wZ ?_ | intro b)
        refine e_ret1 _ rfl rfl ⟨rfl, xs'', [], Z', some ⟨tb, 0, none⟩, 0, pa, pc, r1, r2, r4, fun e' he => by simp at he, fun x' hx' => ?_, r5, rfl⟩ ?_
        · obtain ⟨t1, t2, t3⟩ := be_lev r1 r3 hx2 x' hx'
          exact ⟨by rw [t1], t2, t3⟩
        · unfold SH
          dsimp only
          rw [r2, dec_ne]
          exact Ent.refl _
      | true =>
        rw [if_neg (by simp)]
        repeat (first | refine wZ ?_ | intro b)
        refine l_plain rfl (s_call rfl rfl (top_c hxl (by omega)) [0, 0] rfl ?_ (fun _ _ h => h.elim))
        rintro _ _ ⟨rfl, rfl⟩
        repeat (first | refine wZ ?_ | intro b)
        refine G.ent (L' := blk sb (cl [.slice (some ⟨lb, 0, none⟩) xs'.length lcap, .slice pa s.pts.length pc, .bool s.ls, .bool s.vg, .bool s.ms] 75) :: blk lb (cl (xs'.flatMap lvCells ++ rest) 80) :: Z :: slG (.slice (some ⟨tb, 0, none⟩) 0 0) 139 2 [] :: slP (.slice pa s.pts.length pc) 2 1 (ints s.pts) :: F) (Ent.refl _) ?_
        generalize hpt : (if j + 1 = topF (xs'.map (·.y)) then s.pts ++ [(bytes.length : Int)] else s.pts) = pts'
        refine c_mid (α := Option Addr × Nat) (fun _ => [(0, .pointer (some ⟨sb, 0, none⟩)), (1, .int .i64 (j + 1 : Nat)), (7, .pointer (some ⟨lb, 0 + (j + 1) * 6, none⟩))])
          (fun p => blk sb (cl [.slice (some ⟨lb, 0, none⟩) xs'.length lcap, .slice p.1 pts'.length p.2, .bool s.ls, .bool s.vg, .bool s.ms] 75) :: blk lb (cl (xs'.flatMap lvCells ++ rest) 80) :: Z :: slG (.slice (some ⟨tb, 0, none⟩) 0 0) 139 2 [] :: slP (.slice p.1 pts'.length p.2) 2 1 (ints pts') :: F) (fun _ => True) ?_ ?_
        · by_cases htop : j + 1 = topF (xs'.map (·.y))
          · rw [decide_eq_true (by omega : ((j + 1 : Nat) : Int) = (topF (xs'.map (·.y)) : Nat))]
            rw [if_pos htop] at hpt
            repeat (first | refine wY ?_ | intro b)
            generalize hSB : blk sb (cl [.slice (some ⟨lb, 0, none⟩) xs'.length lcap, .slice pa s.pts.length pc, .bool s.ls, .bool s.vg, .bool s.ms] 75) = SB
            have hE1 : ∀ (A : HP) (R : List HP), Ent (A :: blk lb (cl (xs'.flatMap lvCells ++ rest) 80) :: R) [blk lb (cl (xs'.flatMap lvCells ++ rest) 80)] := fun A R => Ent.drop.trans (Ent.left [_] _)
            have hE2 : ∀ (A B : HP) (R : List HP), Ent (A :: B :: blk lb (cl (xs'.flatMap lvCells ++ rest) 80) :: R) [blk lb (cl (xs'.flatMap lvCells ++ rest) 80)] := fun A B R => Ent.drop.trans (hE1 _ _)
            have hE3 : ∀ (A B C : HP) (R : List HP), Ent (A :: B :: C :: blk lb (cl (xs'.flatMap lvCells ++ rest) 80) :: R) [blk lb (cl (xs'.flatMap lvCells ++ rest) 80)] := fun A B C R => Ent.drop.trans (hE2 _ _ _)
            have hld : ∀ i L R, takeAt i L = some (SB, R) → Rd L ⟨sb, 0 + 1, none⟩ (.slice pa s.pts.length pc) := fun i L R h => by
              rw [← hSB] at h
              exact rd_blk i h rfl
            refine h_any [blk lb (cl (xs'.flatMap lvCells ++ rest) 80)] 15 rfl ?_
            refine h_take (hE1 _ _) 0 rfl (by kernel_rfl) (by kernel_rfl) (by kernel_rfl) rfl rfl rfl pQ rV ?_
            refine h_take (hE1 _ _) 1 rfl (by kernel_rfl) (by kernel_rfl) (by kernel_rfl) rfl rfl rfl pQ rV ?_
            refine h_take (hE1 _ _) 2 rfl (by kernel_rfl) (by kernel_rfl) (by kernel_rfl) rfl rfl rfl pQ rV ?_
            refine h_take (hE1 _ _) 3 rfl (by kernel_rfl) (by kernel_rfl) (by kernel_rfl) rfl rfl rfl pQ rV ?_
            refine h_take (hE1 _ _) 5 rfl (by kernel_rfl) (by kernel_rfl) (by kernel_rfl) rfl rfl rfl pQ rV ?_
            refine h_take (hE1 _ _) 6 rfl (by kernel_rfl) (by kernel_rfl) (by kernel_rfl) rfl rfl rfl pQ rV ?_
            refine h_take (hE1 _ _) 7 rfl (by kernel_rfl) (by kernel_rfl) (by kernel_rfl) rfl rfl rfl pQ rV ?_
            refine h_take (v := .slice va bytes.length vc) (hE1 _ _) 8 rfl (by kernel_rfl) (by kernel_rfl) (by kernel_rfl) rfl rfl rfl pQ (r_load rfl rfl (rd_blk 0 rfl (lc_get hx2 2 (by decide)))) ?_
            refine h_take (hE1 _ _) 9 rfl (by kernel_rfl) (by kernel_rfl) (by kernel_rfl) rfl rfl rfl pQ rV ?_
            repeat' first
              | refine h_two 4 10 (by decide +kernel) rfl rfl rfl rfl ?_ ?_
              | refine h_one 4 (by decide +kernel) rfl rfl ?_
              | refine h_one 10 (by decide +kernel) rfl rfl ?_
              | (refine s_build1 rfl rfl rfl rfl rfl rfl rfl fun tb2 => ?_; refine h_then (hE2 _ _ _) ?_)
              | (apply s_val (v := .slice pa s.pts.length pc) rfl rfl; (first | exact r_load rfl rfl (hld 0 _ _ rfl) | exact r_load rfl rfl (hld 1 _ _ rfl)); (first | refine h_then (hE1 _ _) ?_ | refine h_then (hE2 _ _ _) ?_))
              | fail
            all_goals
              refine h_one 11 (by kernel_rfl) rfl rfl ?_
              refine s_append (i := 5) rfl rfl rfl (Src.some _ _ _ _ _ rfl (rdn_all 0 rfl)) rfl rfl (by simp [ints]) rfl (by omega) (by simp only [maxLen]; omega) rfl fun a3 c3 => ?_
              refine h_then (hE3 _ _ _ _) ?_
              refine h_take (hE3 _ _ _ _) 12 rfl (by kernel_rfl) (by kernel_rfl) (by kernel_rfl) rfl rfl rfl pQ rV ?_
              refine h_take (hE3 _ _ _ _) 13 rfl (by kernel_rfl) (by kernel_rfl) (by kernel_rfl) rfl rfl rfl pQ rV ?_
              refine h_one 14 (by kernel_rfl) rfl rfl ?_
              subst hSB
              refine s_store (i := 2) rfl rfl rfl rfl rfl rfl rfl ?_
              refine h_then (hE3 _ _ _ _) ?_
              refine h_done (by kernel_rfl) ?_
              refine q_then_n ?_
              subst hpt
              refine at_intro (a3, c3) trivial ⟨rfl, rfl, rfl, trivial⟩ ?_
              dsimp only
              rw [show (s.pts ++ [(bytes.length : Int)]).length = s.pts.length + 1 from by simp, show ints (s.pts ++ [(bytes.length : Int)]) = ints s.pts ++ [.int .i64 (bytes.length : Nat)] from by simp [ints]]
              exact arr_ent 1 [0, 2, 2, 2, 0] _
          · rw [decide_eq_false (by omega : ¬ ((j + 1 : Nat) : Int) = (topF (xs'.map (·.y)) : Nat))]
            rw [if_neg htop] at hpt
            subst hpt
            repeat (first | refine wZ ?_ | intro b)
            exact at_intro (pa, pc) trivial ⟨rfl, rfl, rfl, trivial⟩ (Ent.refl _)
        rintro ⟨pa', pc'⟩ _
        repeat (first | refine wZ ?_ | intro b)
        refine l_plain rfl ?_
        apply s_val (v := .slice va bytes.length vc) rfl rfl
        · exact r_load rfl rfl (rd_blk 1 rfl (lc_get hx2 2 (by decide)))
        refine l_plain rfl (s_call rfl rfl (become_c hxl hok2 j (by omega) bytes va vc hb1 hO hres) [0, 0, 0] rfl ?_ (fun _ _ h => h.elim))
        rintro v B ⟨xs'', Z', r1, ⟨r2, r3⟩, r4, r5, rfl⟩
        repeat (first | refine wZ ?_ | intro b)
        refine e_ret1 _ rfl rfl ⟨rfl, xs'', [], Z', some ⟨tb, 0, none⟩, 0, pa', pc', r1, r2, r4, fun e' he => by simp at he, fun x' hx' => ?_, r5, rfl⟩ ?_
        · obtain ⟨t1, t2, t3⟩ := be_lev r1 r3 hx2 x' hx'
          exact ⟨by rw [t1], t2, t3⟩
        · unfold SH
          dsimp only
          rw [r2]
          exact Ent.refl _
end
end Go.Proofs.YtfebpbflpdppiaaGreatDoor
namespace Go.Proofs.YtfebpbflpdppiaaGreatDoor
open Go Go.Sl
set_option maxRecDepth 100000
/-- begin, rollback, end -/
inductive DK where
  | begin
  | roll
  | fin
def DK.s : DK → ByteArray
  | .begin => sBegin
  | .roll => sRoll
  | .fin => sEnd
def begF (s : SS) (j : Nat) (x : Ly) : SS := { s with ys := s.ys.set (j + 1) { begY s j x with levels := x.levels ++ [((begY s j x).bytes, (begY s j x).wrote)] } }
/-- a deed at the rollback j + 1 -/
def deedAt (s : SS) (j : Nat) (x : Ly) : DK → SS × Nat
  | .begin => (begF s j x, 0)
  | .roll => if x.levels = [] then (s, 3) else (rollF s j x, 0)
  | .fin => if x.levels = [] then (s, 3) else (endF s j x, 0)
theorem deedAt_roll (s : SS) (j : Nat) (x : Ly) : deedAt s j x .roll = if x.levels = [] then (s, 3) else (rollF s j x, 0) := rfl
theorem deedAt_fin (s : SS) (j : Nat) (x : Ly) : deedAt s j x .fin = if x.levels = [] then (s, 3) else (endF s j x, 0) := rfl
theorem lv_nil {es : List LE} (h : es.map LE.lv = []) : es = [] := List.map_eq_nil_iff.1 h
attribute [local irreducible] wpList Code.wp Exit.then Exit.inBlock bodyPost RunS RunV G St Ct Sat Ent At Rd GQ QL wpAny wpOp wpQuiet slP Sl.ex sep
section
variable {Z : HP} {sb lb lcap pc lc : Nat} {pa la : Option Addr} {rest : List Value} {xs : List LV} {es : List LE} {s : SS}
set_option maxHeartbeats 4000000 in
theorem deed0_c (hxl : xs.length ≤ 1000) (hok : ∀ x ∈ xs, LVok Z x) (hB : StB xs) (heo : ∀ e ∈ es, LEok Z e) (hys : xs.map (·.y) = s.ys) (j : Nat) (x : LV) (hx : xs[j + 1]? = some x) (hkd : x.y.kd = .roll) (hlv : x.y.levels = es.map LE.lv) (hla : x.la = la) (hlc : x.lc = lc) (hel : es.length ≤ 500)
    (hpts : s.pts.length ≤ 1000) (dk : DK) (hO : oSum s.ys j ≤ 1000000) (hres : ∀ y ∈ (deedAt s j x.y dk).1.ys, y.small) :
    Ct Tryz.prog 42 #[.pointer (some ⟨sb, 0, none⟩), .int .i64 (j + 1 : Nat), .string dk.s] (SH sb lb lcap rest xs es Z la lc pa pc s.pts s.ls s.vg s.ms)
      (DeR Z sb lb lcap rest xs.length (j + 1) (deedAt s j x.y dk)) nev := by
  have hoe : oSum (endY s j x.y) j = oSum s.ys j := by
    unfold endY
    generalize { x.y with levels := x.y.levels.dropLast } = z
    have : ∀ i, i ≤ j → oSum (s.ys.set (j + 1) z) i = oSum s.ys i := by
      intro i
      induction i with
      | zero => intro _; rfl
      | succ i ih =>
        intro hi
        have ih := ih (by omega)
        unfold oSum
        rw [ih, List.getElem?_set, if_neg (by omega)]
    exact this j (Nat.le_refl _)
  cases dk with
  | begin =>
    refine begin_c hxl hok hB heo hys j x hx hkd hlv hla hlc hel ?_
    have := viewF_le hok j
    rwa [hys] at this
  | roll =>
    by_cases h0 : x.y.levels = []
    · have he := lv_nil (hlv.symm.trans h0)
      subst he
      rw [deedAt_roll, if_pos h0]
      exact perm_c hxl hok hys j x hx hkd h0 hla hlc DK.roll.s (by rfl)
    · obtain ⟨es0, e, rfl⟩ := sum_last (l := es) (fun h => h0 (by rw [hlv, h]; rfl))
      rw [deedAt_roll, if_neg h0]
      exact rollback_c hxl hok hys e heo j x hx hkd hlv hla hlc (by simp at hel; omega)
  | fin =>
    by_cases h0 : x.y.levels = []
    · have he := lv_nil (hlv.symm.trans h0)
      subst he
      rw [deedAt_fin, if_pos h0]
      exact perm_c hxl hok hys j x hx hkd h0 hla hlc DK.fin.s (by rfl)
    · obtain ⟨es0, e, rfl⟩ := sum_last (l := es) (fun h => h0 (by rw [hlv, h]; rfl))
      rw [deedAt_fin, if_neg h0] at hres ⊢
      refine end_c hxl hok hys e heo j x hx hkd hlv hla hlc (by simp at hel; omega) hpts hB (by rw [hoe]; exact hO) fun h1 h2 => ?_
      subst h1
      dsimp only at hres
      unfold endF at hres
      rw [if_neg (by rw [hlv]; simp), if_neg (by rw [h2]; simp)] at hres
      split at hres
      · exact hres
      · exact hres
set_option maxHeartbeats 4000000 in
theorem deed_c (hxl : xs.length ≤ 1000) (hok : ∀ x ∈ xs, LVok Z x) (hB : StB xs) (heo : ∀ e ∈ es, LEok Z e) (hys : xs.map (·.y) = s.ys) (j : Nat) (x : LV) (hx : xs[j + 1]? = some x) (hkd : x.y.kd = .roll) (hlv : x.y.levels = es.map LE.lv) (hla : x.la = la) (hlc : x.lc = lc) (hel : es.length ≤ 500)
    (hpts : s.pts.length ≤ 1000) (dk : DK) (hO : oSum s.ys j ≤ 1000000) (hres : ∀ y ∈ (deedAt s j x.y dk).1.ys, y.small) :
    ∀ d, j + 1 + d < xs.length → (∀ i y, j + 1 < i → i ≤ j + 1 + d → xs[i]? = some y → y.y.kd = .inner) →
    Ct Tryz.prog 42 #[.pointer (some ⟨sb, 0, none⟩), .int .i64 (j + 1 + d : Nat), .string dk.s] (SH sb lb lcap rest xs es Z la lc pa pc s.pts s.ls s.vg s.ms)
      (DeR Z sb lb lcap rest xs.length (j + 1) (deedAt s j x.y dk)) nev := by
  intro d
  induction d with
  | zero => exact fun _ _ => deed0_c hxl hok hB heo hys j x hx hkd hlv hla hlc hel hpts dk hO hres
  | succ d ih =>
    intro hd hin
    have ih := ih (by omega) fun i y h1 h2 h3 => hin i y h1 (by omega) h3
    obtain ⟨y, hy⟩ : ∃ y, xs[j + 1 + (d + 1)]? = some y := ⟨xs[j + 1 + (d + 1)], List.getElem?_eq_getElem hd⟩
    have hyk := hin _ y (by omega) (Nat.le_refl _) hy
    unfold SH at ih ⊢
    refine Ct.of Tryz.func42 rfl Tryz.ntmps42 rfl fun m F => ?_
    repeat (first | refine wZ ?_ | intro b)
    refine l_plain rfl ?_
    apply s_val rfl rfl
    · exact RunS.v (r_index (i := j + 1 + (d + 1)) rfl rfl rfl hd)
    repeat (first | refine wZ ?_ | intro b)
    rw [decide_eq_false (by omega : ¬ ((j + 1 + (d + 1) : Nat) : Int) = 0)]
    repeat (first | refine wZ ?_ | intro b)
    refine l_plain rfl ?_
    apply s_val (v := .string sInner) rfl rfl
    · exact r_load rfl rfl (rd_blk 1 rfl ((lc_get hy 0 (by decide)).trans (by rw [lvCells, hyk]; rfl)))
    repeat (first | refine wZ ?_ | intro b)
    refine l_plain rfl (s_call rfl rfl ih [0, 0, 0, 0, 0] rfl ?_ (fun _ _ h => h.elim))
    rintro v B ⟨rfl, h1⟩
    repeat (first | refine wZ ?_ | intro b)
    exact e_ret1 _ rfl rfl ⟨rfl, h1⟩ (Ent.refl _)
end
end Go.Proofs.YtfebpbflpdppiaaGreatDoor
