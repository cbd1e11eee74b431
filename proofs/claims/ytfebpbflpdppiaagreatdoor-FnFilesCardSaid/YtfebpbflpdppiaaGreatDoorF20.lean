/- What is told, against what is to be told · The reference's judgement of a run · Whether a run is said by the reference · The reference's runs: all is small. No program · The law's own functions: copies. -/
import Derived.Test.YtfebpbflpdppiaaGreatDoorF19
namespace Go.Proofs.YtfebpbflpdppiaaGreatDoor
open Go Go.Sl
set_option maxRecDepth 100000
def toldF (w : Wnt) (e q : Int) (dat : List UInt8) (d : ByteArray) : Bool :=
  if w.e = -1 then !decide (e = 0) && !decide (e = 7)
  else if (w.e = -2 ∧ e ≠ 0 ∧ e ≠ 1) ∨ (w.e ≠ -2 ∧ e ≠ w.e) then false
  else if d = sRead then decide (q = w.n) && fitsF w.b dat
  else if d = sWrite ∨ d = sSize then decide (0 < w.e) || decide (q = w.n)
  else true
attribute [local irreducible] wpList Code.wp Exit.then Exit.inBlock bodyPost RunS RunV G St Ct Sat Ent At Rd GQ QL wpAny wpOp wpQuiet slP Sl.ex sep
section
variable {Z I : HP}
set_option maxHeartbeats 8000000 in
theorem told_c (w : Wnt) (wa : Option Addr) (wc : Nat) (hw : Src [Z] 1 (.slice wa w.b.length wc) w.b.length (i16s w.b)) (hwl : w.b.length ≤ 10000000) (e q : Int) (dat : List UInt8) (da : Option Addr) (dc : Nat) (hd : Src [I] 1 (.slice da dat.length dc) dat.length (u8s dat)) (hdl : dat.length ≤ 10000000) (d : ByteArray) :
    Ct Tryz.prog 30 #[.agg (wCells w wa wc).toArray, .int .i64 e, .int .i64 q, .slice da dat.length dc, .string d] [Z, I] (fun v B => v = .bool (toldF w e q dat d) ∧ B = [Z, I]) nev := by
  have hfc := fits_c (Z := Z) (D := I) w.b dat wa da w.b.length wc dat.length dc hw hd hwl hdl
  unfold toldF
  refine Ct.of Tryz.func30 rfl Tryz.ntmps30 rfl fun m F => ?_
  repeat (first | refine wZ ?_ | intro b)
  revert b; intro wb
  refine G.ent (L' := blk wb (cl (wCells w wa wc) 70) :: Z :: I :: F) (Ent.refl _) ?_
  by_cases h1 : w.e = -1
  · rw [decide_eq_true h1, if_pos h1]
    repeat (first | refine wZ ?_ | intro b)
    by_cases h2 : e = 0
    · rw [decide_eq_true h2]
      repeat (first | refine wZ ?_ | intro b)
      exact e_ret1 _ rfl rfl ⟨rfl, rfl⟩ Ent.drop
    · rw [decide_eq_false h2]
      repeat (first | refine wZ ?_ | intro b)
      exact e_ret1 _ rfl rfl ⟨rfl, rfl⟩ Ent.drop
  rw [decide_eq_false h1, if_neg h1]
  repeat (first | refine wZ ?_ | intro b)
  by_cases ha : w.e = -2
  · rw [decide_eq_true ha]
    repeat (first | refine wZ ?_ | intro b)
    by_cases he0 : e = 0
    · rw [decide_eq_true he0]
      repeat (first | refine wZ ?_ | intro b)
      rw [decide_eq_true ha]
      repeat (first | refine wZ ?_ | intro b)
      rw [if_neg (by simp [he0, ha])]
      by_cases hr : d = sRead
      · subst hr
        rw [if_pos rfl]
        repeat (first | refine wZ ?_ | intro b)
        by_cases hq : q = w.n
        · rw [decide_eq_true hq]
          repeat (first | refine wZ ?_ | intro b)
          refine l_yes rfl rfl rfl (s_call rfl rfl hfc [1, 1] rfl ?_ (fun _ _ h => h.elim))
          rintro _ _ ⟨rfl, rfl⟩
          repeat (first | refine wZ ?_ | intro b)
          exact e_ret1 _ rfl rfl ⟨rfl, rfl⟩ (arr_ent 1 [0, 0] _)
        · rw [decide_eq_false hq]
          repeat (first | refine wZ ?_ | intro b)
          exact e_ret1 _ rfl rfl ⟨rfl, rfl⟩ Ent.drop
      rw [if_neg hr, show (d.data.toList == [114, 101, 97, 100]) = false from ne_lit hr]
      repeat (first | refine wZ ?_ | intro b)
      by_cases hws : d = sWrite ∨ d = sSize
      · rw [if_pos hws]
        rcases hws with hw1 | hw1
        · subst hw1
          repeat (first | refine wZ ?_ | intro b)
          by_cases hp : 0 < w.e
          · rw [decide_eq_true hp]
            repeat (first | refine wZ ?_ | intro b)
            exact e_ret1 _ rfl rfl ⟨rfl, rfl⟩ Ent.drop
          · rw [decide_eq_false hp]
            repeat (first | refine wZ ?_ | intro b)
            exact e_ret1 _ rfl rfl ⟨rfl, rfl⟩ Ent.drop
        · subst hw1
          repeat (first | refine wZ ?_ | intro b)
          by_cases hp : 0 < w.e
          · rw [decide_eq_true hp]
            repeat (first | refine wZ ?_ | intro b)
            exact e_ret1 _ rfl rfl ⟨rfl, rfl⟩ Ent.drop
          · rw [decide_eq_false hp]
            repeat (first | refine wZ ?_ | intro b)
            exact e_ret1 _ rfl rfl ⟨rfl, rfl⟩ Ent.drop
      · rw [if_neg hws, show (d.data.toList == [119, 114, 105, 116, 101]) = false from ne_lit fun h => hws (.inl h)]
        repeat (first | refine wZ ?_ | intro b)
        rw [show (d.data.toList == [115, 105, 122, 101]) = false from ne_lit fun h => hws (.inr h)]
        repeat (first | refine wZ ?_ | intro b)
        exact e_ret1 _ rfl rfl ⟨rfl, rfl⟩ Ent.drop
    · rw [decide_eq_false he0]
      repeat (first | refine wZ ?_ | intro b)
      by_cases he1 : e = 1
      · rw [decide_eq_true he1]
        repeat (first | refine wZ ?_ | intro b)
        rw [decide_eq_true ha]
        repeat (first | refine wZ ?_ | intro b)
        rw [if_neg (by simp [he1, ha])]
        by_cases hr : d = sRead
        · subst hr
          rw [if_pos rfl]
          repeat (first | refine wZ ?_ | intro b)
          by_cases hq : q = w.n
          · rw [decide_eq_true hq]
            repeat (first | refine wZ ?_ | intro b)
            refine l_yes rfl rfl rfl (s_call rfl rfl hfc [1, 1] rfl ?_ (fun _ _ h => h.elim))
            rintro _ _ ⟨rfl, rfl⟩
            repeat (first | refine wZ ?_ | intro b)
            exact e_ret1 _ rfl rfl ⟨rfl, rfl⟩ (arr_ent 1 [0, 0] _)
          · rw [decide_eq_false hq]
            repeat (first | refine wZ ?_ | intro b)
            exact e_ret1 _ rfl rfl ⟨rfl, rfl⟩ Ent.drop
        rw [if_neg hr, show (d.data.toList == [114, 101, 97, 100]) = false from ne_lit hr]
        repeat (first | refine wZ ?_ | intro b)
        by_cases hws : d = sWrite ∨ d = sSize
        · rw [if_pos hws]
          rcases hws with hw1 | hw1
          · subst hw1
            repeat (first | refine wZ ?_ | intro b)
            by_cases hp : 0 < w.e
            · rw [decide_eq_true hp]
              repeat (first | refine wZ ?_ | intro b)
              exact e_ret1 _ rfl rfl ⟨rfl, rfl⟩ Ent.drop
            · rw [decide_eq_false hp]
              repeat (first | refine wZ ?_ | intro b)
              exact e_ret1 _ rfl rfl ⟨rfl, rfl⟩ Ent.drop
          · subst hw1
            repeat (first | refine wZ ?_ | intro b)
            by_cases hp : 0 < w.e
            · rw [decide_eq_true hp]
              repeat (first | refine wZ ?_ | intro b)
              exact e_ret1 _ rfl rfl ⟨rfl, rfl⟩ Ent.drop
            · rw [decide_eq_false hp]
              repeat (first | refine wZ ?_ | intro b)
              exact e_ret1 _ rfl rfl ⟨rfl, rfl⟩ Ent.drop
        · rw [if_neg hws, show (d.data.toList == [119, 114, 105, 116, 101]) = false from ne_lit fun h => hws (.inl h)]
          repeat (first | refine wZ ?_ | intro b)
          rw [show (d.data.toList == [115, 105, 122, 101]) = false from ne_lit fun h => hws (.inr h)]
          repeat (first | refine wZ ?_ | intro b)
          exact e_ret1 _ rfl rfl ⟨rfl, rfl⟩ Ent.drop
      · rw [decide_eq_false he1, if_pos (.inl ⟨ha, he0, he1⟩)]
        repeat (first | refine wZ ?_ | intro b)
        exact e_ret1 _ rfl rfl ⟨rfl, rfl⟩ Ent.drop
  · rw [decide_eq_false ha]
    repeat (first | refine wZ ?_ | intro b)
    rw [decide_eq_false ha]
    repeat (first | refine wZ ?_ | intro b)
    by_cases hew : e = w.e
    · rw [decide_eq_true hew]
      repeat (first | refine wZ ?_ | intro b)
      rw [if_neg (by simp [hew, ha])]
      by_cases hr : d = sRead
      · subst hr
        rw [if_pos rfl]
        repeat (first | refine wZ ?_ | intro b)
        by_cases hq : q = w.n
        · rw [decide_eq_true hq]
          repeat (first | refine wZ ?_ | intro b)
          refine l_yes rfl rfl rfl (s_call rfl rfl hfc [1, 1] rfl ?_ (fun _ _ h => h.elim))
          rintro _ _ ⟨rfl, rfl⟩
          repeat (first | refine wZ ?_ | intro b)
          exact e_ret1 _ rfl rfl ⟨rfl, rfl⟩ (arr_ent 1 [0, 0] _)
        · rw [decide_eq_false hq]
          repeat (first | refine wZ ?_ | intro b)
          exact e_ret1 _ rfl rfl ⟨rfl, rfl⟩ Ent.drop
      rw [if_neg hr, show (d.data.toList == [114, 101, 97, 100]) = false from ne_lit hr]
      repeat (first | refine wZ ?_ | intro b)
      by_cases hws : d = sWrite ∨ d = sSize
      · rw [if_pos hws]
        rcases hws with hw1 | hw1
        · subst hw1
          repeat (first | refine wZ ?_ | intro b)
          by_cases hp : 0 < w.e
          · rw [decide_eq_true hp]
            repeat (first | refine wZ ?_ | intro b)
            exact e_ret1 _ rfl rfl ⟨rfl, rfl⟩ Ent.drop
          · rw [decide_eq_false hp]
            repeat (first | refine wZ ?_ | intro b)
            exact e_ret1 _ rfl rfl ⟨rfl, rfl⟩ Ent.drop
        · subst hw1
          repeat (first | refine wZ ?_ | intro b)
          by_cases hp : 0 < w.e
          · rw [decide_eq_true hp]
            repeat (first | refine wZ ?_ | intro b)
            exact e_ret1 _ rfl rfl ⟨rfl, rfl⟩ Ent.drop
          · rw [decide_eq_false hp]
            repeat (first | refine wZ ?_ | intro b)
            exact e_ret1 _ rfl rfl ⟨rfl, rfl⟩ Ent.drop
      · rw [if_neg hws, show (d.data.toList == [119, 114, 105, 116, 101]) = false from ne_lit fun h => hws (.inl h)]
        repeat (first | refine wZ ?_ | intro b)
        rw [show (d.data.toList == [115, 105, 122, 101]) = false from ne_lit fun h => hws (.inr h)]
        repeat (first | refine wZ ?_ | intro b)
        exact e_ret1 _ rfl rfl ⟨rfl, rfl⟩ Ent.drop
    · rw [decide_eq_false hew, if_pos (.inr ⟨ha, hew⟩)]
      repeat (first | refine wZ ?_ | intro b)
      exact e_ret1 _ rfl rfl ⟨rfl, rfl⟩ Ent.drop
end
end Go.Proofs.YtfebpbflpdppiaaGreatDoor
namespace Go.Proofs.YtfebpbflpdppiaaGreatDoor
open Go Go.Sl
set_option maxRecDepth 100000
/-- step by step: what is answered at once, or the stack behind all steps -/
def fitR (s : SS) : List Stp → List Tld → Bool ⊕ SS
  | [], _ => .inr s
  | st :: l, T =>
    if (doF s st.d st.off st.n st.bs).1.ls = true ∧ (doF s st.d st.off st.n st.bs).2.2 = false then .inl true
    else match T with
      | [] => .inl false
      | td :: T' =>
        if (doF s st.d st.off st.n st.bs).2.2 = true ∧ toldF (doF s st.d st.off st.n st.bs).2.1 td.e td.q td.dat st.d = false then .inl false
        else if (doF s st.d st.off st.n st.bs).1.ls = true then .inl true
        else fitR (doF s st.d st.off st.n st.bs).1 l T'
def baseB (s : SS) : List Int := match s.ys[0]? with
  | some x => x.bytes
  | none => []
def fitE (s : SS) (nT nS : Nat) (out : List UInt8) (pts : List Int) : Bool :=
  if nT ≠ nS ∨ fitsF (baseB s) out = false then false
  else if s.vg = true then true
  else decide (pts = s.pts)
def fitV (g : Bool ⊕ SS) (nT nS : Nat) (out : List UInt8) (pts : List Int) : Bool := match g with
  | .inl v => v
  | .inr s => fitE s nT nS out pts
theorem fitV_r (s : SS) (nT nS : Nat) (out : List UInt8) (pts : List Int) : fitV (.inr s) nT nS out pts = fitE s nT nS out pts := rfl
def fitF (ib : List UInt8) (ly : List (ByteArray × Int)) (steps : List Stp) (T : List Tld) (out : List UInt8) (pts : List Int) : Bool :=
  if ly.all okK = false then true
  else fitV (fitR (s0 ib ly) steps T) T.length steps.length out pts
/-- what a run of the reference keeps -/
structure OkI (Ok : Nat → SS → Prop) : Prop where
  sin : ∀ i s, Ok i s → Sin s
  sm : ∀ i s, Ok i s → ∀ y ∈ s.ys, y.small
  st : ∀ i s (x : Stp), Ok i s → i < 200 → x.few → Ok (i + 1) (doF s x.d x.off x.n x.bs).1
  w : ∀ i s (x : Stp), Ok i s → i < 200 → x.few → (doF s x.d x.off x.n x.bs).2.1.b.length ≤ 10000000
theorem fitR_cons (s : SS) (st : Stp) (l : List Stp) (T : List Tld) : fitR s (st :: l) T = if (doF s st.d st.off st.n st.bs).1.ls = true ∧ (doF s st.d st.off st.n st.bs).2.2 = false then .inl true else match T with | [] => .inl false | td :: T' => if (doF s st.d st.off st.n st.bs).2.2 = true ∧ toldF (doF s st.d st.off st.n st.bs).2.1 td.e td.q td.dat st.d = false then .inl false else if (doF s st.d st.off st.n st.bs).1.ls = true then .inl true else fitR (doF s st.d st.off st.n st.bs).1 l T' := by conv => lhs; unfold fitR
theorem fitR_nil (s : SS) (T : List Tld) : fitR s [] T = .inr s := by unfold fitR; rfl
theorem ints_get (l : List Int) (i : Nat) : (ints l)[i]? = (l[i]?).map (Value.int .i64) := by simp [ints]
theorem drop_at {α : Type} {l : List α} {i : Nat} {x : α} (h : l[i]? = some x) : l.drop i = x :: l.drop (i + 1) := by
  obtain ⟨h1, rfl⟩ := List.getElem?_eq_some_iff.1 h
  exact List.drop_eq_getElem_cons h1
theorem src_slc {L : List HP} {size k : Nat} {v : Value} {l : List Value} (h : Src L size v k l) : ∃ a c, v = .slice a k c := by
  cases h with
  | nil => exact ⟨_, _, rfl⟩
  | emp _ _ => exact ⟨_, _, rfl⟩
  | some b o _ _ _ hl hr => exact ⟨_, _, rfl⟩
/-- where the walk stands -/
structure FSt where
  i : Nat
  s : SS
  xs : List LV
  es : List LE
  Z : HP
  la : Option Addr
  lc : Nat
  pa : Option Addr
  pc : Nat
attribute [local irreducible] wpList Code.wp Exit.then Exit.inBlock bodyPost RunS RunV G St Ct Sat Ent At Rd GQ QL wpAny wpOp wpQuiet slP Sl.ex sep
section
variable {I : HP}
set_option maxHeartbeats 16000000 in
theorem FilesFit_c {Ok : Nat → SS → Prop} (hOk : OkI Ok) (ib : List UInt8) (ia : Option Addr) (ni nc : Nat) (hi : Src [I] 1 (.slice ia ni nc) ni (u8s ib)) (hni : ni ≤ 65536)
    (ly : List (ByteArray × Int)) (ya : Option Addr) (ny yc : Nat) (hy : Src [I] 2 (.slice ya ny yc) ny (ly.flatMap lyC)) (hly : ly.length = ny) (hy6 : ny ≤ 6) (hyo : ∀ y ∈ ly, 0 ≤ y.2 ∧ y.2 ≤ 65536) (hO0 : ly.all okK = true → Ok 0 (s0 ib ly))
    (ls : List (Stp × Value)) (la : Option Addr) (nl lc : Nat) (hl : Src [I] 4 (.slice la nl lc) nl (ls.flatMap stC)) (hll : ls.length = nl) (hl60 : nl ≤ 60) (hls : ∀ x ∈ ls, x.1.few ∧ Src [I] 1 x.2 x.1.bs.length (u8s x.1.bs))
    (TL : List (Tld × Value)) (ta : Option Addr) (nt tc : Nat) (ht : Src [I] 3 (.slice ta nt tc) nt (TL.flatMap tdC)) (htl : TL.length = nt) (ht60 : nt ≤ 1000) (hts : ∀ x ∈ TL, x.1.dat.length ≤ 10000000 ∧ Src [I] 1 x.2 x.1.dat.length (u8s x.1.dat))
    (out : List UInt8) (oa : Option Addr) (oc : Nat) (ho : Src [I] 1 (.slice oa out.length oc) out.length (u8s out)) (hol : out.length ≤ 10000000)
    (pts : List Int) (pa : Option Addr) (pc : Nat) (hp : Src [I] 1 (.slice pa pts.length pc) pts.length (ints pts)) (_hpl : pts.length ≤ 10000000) :
    Ct Tryz.prog 12 #[.slice ia ni nc, .slice ya ny yc, .slice la nl lc, .slice ta nt tc, .slice oa out.length oc, .slice pa pts.length pc] [I] (fun v B => v = .bool (fitF ib ly (ls.map (·.1)) (TL.map (·.1)) out pts) ∧ B = [I]) nev := by
  refine Ct.of Tryz.func12 rfl Tryz.ntmps12 rfl fun m F => ?_
  unfold fitF
  generalize hfG : fitR (s0 ib ly) (ls.map (·.1)) (TL.map (·.1)) = G0
  repeat (first | refine wZ ?_ | intro b)
  refine l_plain rfl (s_call rfl rfl (NewStack_c ib ia ni nc hi hni ly ya ny yc hy hly hy6 hyo) [0] rfl ?_ (fun _ _ h => h.elim))
  rintro v B (⟨hall, sb, lb, lcap, rest, xs, Z, rfl, hv, hxn, rfl⟩ | ⟨hall, rfl, rfl⟩)
  · rw [if_neg (by rw [hall]; simp)]
    unfold SH
    repeat (first | refine wZ ?_ | intro b)
    refine c_loop (α := FSt) (fun y => [(30, .int .i64 (y.i : Nat)), (29, .int .i64 (nl : Nat)), (28, .slice la nl lc), (13, .pointer (some ⟨sb, 0, none⟩)), (2, .slice la nl lc), (3, .slice ta nt tc), (4, .slice oa out.length oc), (5, .slice pa pts.length pc), (12, .bool false)])
      (fun y => blk sb (cl [.slice (some ⟨lb, 0, none⟩) y.xs.length lcap, .slice y.pa y.s.pts.length y.pc, .bool y.s.ls, .bool y.s.vg, .bool y.s.ms] 75) :: blk lb (cl (y.xs.flatMap lvCells ++ rest) 80) :: y.Z :: slG (.slice y.la y.es.length y.lc) 139 2 (y.es.flatMap leCells) :: slP (.slice y.pa y.s.pts.length y.pc) 2 1 (ints y.s.pts) :: I :: F)
      (fun y => y.i ≤ nl ∧ Ok y.i y.s ∧ SV y.xs y.es y.Z y.la y.lc y.s ∧ y.s.ls = false ∧ G0 = fitR y.s ((ls.map (·.1)).drop y.i) ((TL.map (·.1)).drop y.i)) (fun y => nl - y.i) ⟨0, s0 ib ly, xs, [], Z, none, 0, none, 0⟩
      ⟨Nat.zero_le _, hO0 hall, hv, rfl, hfG.symm⟩ (by exact ⟨rfl, rfl, rfl, rfl, rfl, rfl, rfl, rfl, rfl, trivial⟩) (Ent.refl _) ?_
    clear hv hxn hi xs Z
    rintro ⟨i, s, xs, es, Z, sa, sc, ga, gc⟩ ⟨hin, hok, hv, hsl, hfR⟩
    dsimp only at hin hok hv hsl hfR ⊢
    have hsin := hOk.sin i s hok
    by_cases hlt : i < nl
    · obtain ⟨yb, yo, rfl, hyr⟩ := src_addr hl (by omega)
      obtain ⟨x, hx⟩ : ∃ x, ls[i]? = some x := ⟨ls[i]'(by omega), List.getElem?_eq_getElem (by omega)⟩
      have hxf := hls x (List.mem_of_getElem? hx)
      obtain ⟨hfew, hxs⟩ := hxf
      have hrd : RdN [I] yb (yo + i * 4) (stC x) := rd_part (f := stC) (fun _ => rfl) hyr hx
      have hd1 : (ls.map (·.1)).drop i = x.1 :: (ls.map (·.1)).drop (i + 1) := drop_at (by rw [List.getElem?_map, hx]; rfl)
      obtain ⟨⟨d, off, n, bs⟩, slv⟩ := x
      dsimp only at hxs hd1 hfew
      obtain ⟨da, dc, rfl⟩ := src_slc hxs
      have hok2 := hOk.st i s ⟨d, off, n, bs⟩ hok (by omega) hfew
      have hwl := hOk.w i s ⟨d, off, n, bs⟩ hok (by omega) hfew
      have hdo := do_c (sb := sb) (lb := lb) (lcap := lcap) (rest := rest) (pa := ga) (pc := gc) (la := sa) (lc := sc) hv hsin d off n hfew.1 hfew.2.1 bs da dc hxs hfew.2.2 (hOk.sm _ _ hok2)
      rw [hd1, fitR_cons] at hfR
      dsimp only at hok2 hwl hfR
      generalize doF s d off n bs = r at hok2 hdo hwl hfR
      obtain ⟨s2, w, sd⟩ := r
      dsimp only at hok2 hdo hwl hfR
      unfold SH at hdo
      repeat (first | refine wZ ?_ | intro b)
      rw [decide_eq_true (by omega : (i : Int) < (nl : Int))]
      repeat (first | refine wZ ?_ | intro b)
      refine l_plain rfl ?_
      apply s_val rfl rfl
      · exact RunS.v (r_index (i := i) rfl rfl rfl hlt)
      refine l_plain rfl ?_
      apply s_val rfl rfl
      · exact r_loadN (vs := [.string d, .int .i64 off, .int .i64 n, .slice da bs.length dc]) rfl rfl rfl (RdN.ent hrd (Ent.pick1 (i := 5) rfl))
      repeat (first | refine wZ ?_ | intro b)
      revert b; intro xb
      refine G.ent (L' := blk xb (cl [.string d, .int .i64 off, .int .i64 n, .slice da bs.length dc] 43) :: blk sb (cl [.slice (some ⟨lb, 0, none⟩) xs.length lcap, .slice ga s.pts.length gc, .bool s.ls, .bool s.vg, .bool s.ms] 75) :: blk lb (cl (xs.flatMap lvCells ++ rest) 80) :: Z :: slG (.slice sa es.length sc) 139 2 (es.flatMap leCells) :: slP (.slice ga s.pts.length gc) 2 1 (ints s.pts) :: I :: F) (Ent.refl _) ?_
      refine l_plain rfl (s_call rfl rfl hdo [1, 1, 1, 1, 1, 1] rfl ?_ (fun _ _ h => h.elim))
      rintro _ _ ⟨xs', es', Z', sa', sc', ga', gc', wa, wc, rfl, hws, hlen, hv', hent, rfl⟩
      unfold SH
      dsimp only at hws hv' ⊢
      repeat (first | refine wZ ?_ | intro b)
      revert b; intro wb
      refine G.ent (L' := blk wb (cl (wCells w wa wc) 70) :: blk sb (cl [.slice (some ⟨lb, 0, none⟩) xs'.length lcap, .slice ga' s2.pts.length gc', .bool s2.ls, .bool s2.vg, .bool s2.ms] 75) :: blk lb (cl (xs'.flatMap lvCells ++ rest) 80) :: Z' :: slG (.slice sa' es'.length sc') 139 2 (es'.flatMap leCells) :: slP (.slice ga' s2.pts.length gc') 2 1 (ints s2.pts) :: I :: blk xb (cl [.string d, .int .i64 off, .int .i64 n, .slice da bs.length dc] 43) :: F) (Ent.refl _) ?_
      cases sd with
      | false =>
        cases hl2 : s2.ls with
        | true =>
          rw [hl2, if_pos ⟨rfl, rfl⟩] at hfR
          repeat (first | refine wZ ?_ | intro b)
          exact e_ret1 _ rfl rfl ⟨by rw [hfR]; rfl, rfl⟩ (arr_ent 7 [6] _)
        | false =>
          rw [hl2, if_neg (by simp)] at hfR
          repeat (first | refine wZ ?_ | intro b)
          by_cases hit : i < nt
          · skip
            obtain ⟨y, hy2⟩ : ∃ y, TL[i]? = some y := ⟨TL[i]'(by omega), List.getElem?_eq_getElem (by omega)⟩
            have hd2 : (TL.map (·.1)).drop i = y.1 :: (TL.map (·.1)).drop (i + 1) := drop_at (by rw [List.getElem?_map, hy2]; rfl)
            rw [hd2] at hfR
            rw [decide_eq_false (by omega : ¬ ((nt : Nat) : Int) ≤ (i : Nat))]
            dsimp only at hfR
            rw [if_neg (by simp), if_neg (by simp)] at hfR
            repeat (first | refine wZ ?_ | intro b)
            refine at_intro ⟨i + 1, s2, xs', es', Z', sa', sc', ga', gc'⟩ ⟨⟨hlt, hok2, hv', hl2, hfR⟩, by dsimp only; omega⟩ ⟨rfl, rfl, rfl, rfl, rfl, rfl, rfl, rfl, rfl, trivial⟩ ?_
            dsimp only
            rw [hl2]
            exact arr_ent 2 [1, 1, 1, 1, 1, 1] _
          · skip
            rw [List.drop_eq_nil_of_le (by rw [List.length_map]; omega : (TL.map (·.1)).length ≤ i)] at hfR
            rw [decide_eq_true (by omega : ((nt : Nat) : Int) ≤ (i : Nat))]
            repeat (first | refine wZ ?_ | intro b)
            exact e_ret1 _ rfl rfl ⟨by rw [hfR]; rfl, rfl⟩ (arr_ent 7 [6] _)
      | true =>
        cases hl2 : s2.ls with
        | true =>
          rw [hl2, if_neg (by simp)] at hfR
          repeat (first | refine wZ ?_ | intro b)
          by_cases hit : i < nt
          · skip
            obtain ⟨y, hy2⟩ : ∃ y, TL[i]? = some y := ⟨TL[i]'(by omega), List.getElem?_eq_getElem (by omega)⟩
            have hd2 : (TL.map (·.1)).drop i = y.1 :: (TL.map (·.1)).drop (i + 1) := drop_at (by rw [List.getElem?_map, hy2]; rfl)
            rw [hd2] at hfR
            rw [decide_eq_false (by omega : ¬ ((nt : Nat) : Int) ≤ (i : Nat))]
            dsimp only at hfR
            obtain ⟨tb2, to2, rfl, htr⟩ := src_addr ht (by omega)
            have hrt : RdN [I] tb2 (to2 + i * 3) (tdC y) := rd_part (f := tdC) (fun _ => rfl) htr hy2
            obtain ⟨hyl, hys⟩ := hts y (List.mem_of_getElem? hy2)
            obtain ⟨⟨te, tq, tdat⟩, tsl⟩ := y
            dsimp only at hyl hys hd2 hfR
            obtain ⟨tda, tdc, rfl⟩ := src_slc hys
            have htc := told_c (Z := Z') (I := I) w wa wc hws hwl te tq tdat tda tdc hys hyl d
            repeat (first | refine wZ ?_ | intro b)
            apply qt_valY rfl rfl rfl rfl rfl
            · exact RunS.v (r_index (i := i) rfl rfl rfl hit)
            repeat (first | refine wZ ?_ | intro b)
            apply qt_valY (v := .int .i64 (te : Nat)) rfl rfl rfl rfl rfl
            · exact r_load rfl rfl ((RdN.ent hrt (Ent.pick1 (i := 6) rfl)).get (j := 0) rfl)
            repeat (first | refine wZ ?_ | intro b)
            apply qt_valY rfl rfl rfl rfl rfl
            · exact RunS.v (r_index (i := i) rfl rfl rfl hit)
            repeat (first | refine wZ ?_ | intro b)
            apply qt_valY (v := .int .i64 tq) rfl rfl rfl rfl rfl
            · exact r_load rfl rfl ((RdN.ent hrt (Ent.pick1 (i := 6) rfl)).get (j := 1) rfl)
            repeat (first | refine wZ ?_ | intro b)
            apply qt_valY rfl rfl rfl rfl rfl
            · exact RunS.v (r_index (i := i) rfl rfl rfl hit)
            repeat (first | refine wZ ?_ | intro b)
            apply qt_valY (v := .slice tda tdat.length tdc) rfl rfl rfl rfl rfl
            · exact r_load rfl rfl ((RdN.ent hrt (Ent.pick1 (i := 6) rfl)).get (j := 2) rfl)
            repeat (first | refine wZ ?_ | intro b)
            apply qt_valY (v := .string d) rfl rfl rfl rfl rfl
            · exact r_load rfl rfl (rd_blk 7 rfl rfl)
            repeat (first | refine wZ ?_ | intro b)
            refine qt_callY rfl rfl rfl rfl htc [3, 5] rfl (arr_ent 0 [2, 2, 2, 0, 1, 1, 0] _) ?_
            repeat (first | refine wZ ?_ | intro b)
            cases htd : toldF w (te : Int) tq tdat d with
            | false =>
              rw [htd, if_pos ⟨rfl, rfl⟩] at hfR
              repeat (first | refine wZ ?_ | intro b)
              exact e_ret1 _ rfl rfl ⟨by rw [hfR]; rfl, rfl⟩ (arr_ent 7 [6] _)
            | true =>
              rw [htd, if_neg (by simp), if_pos rfl] at hfR
              repeat (first | refine wZ ?_ | intro b)
              exact e_ret1 _ rfl rfl ⟨by rw [hfR]; rfl, rfl⟩ (arr_ent 7 [6] _)
          · skip
            rw [List.drop_eq_nil_of_le (by rw [List.length_map]; omega : (TL.map (·.1)).length ≤ i)] at hfR
            rw [decide_eq_true (by omega : ((nt : Nat) : Int) ≤ (i : Nat))]
            repeat (first | refine wZ ?_ | intro b)
            exact e_ret1 _ rfl rfl ⟨by rw [hfR]; rfl, rfl⟩ (arr_ent 7 [6] _)
        | false =>
          rw [hl2, if_neg (by simp)] at hfR
          repeat (first | refine wZ ?_ | intro b)
          by_cases hit : i < nt
          · skip
            obtain ⟨y, hy2⟩ : ∃ y, TL[i]? = some y := ⟨TL[i]'(by omega), List.getElem?_eq_getElem (by omega)⟩
            have hd2 : (TL.map (·.1)).drop i = y.1 :: (TL.map (·.1)).drop (i + 1) := drop_at (by rw [List.getElem?_map, hy2]; rfl)
            rw [hd2] at hfR
            rw [decide_eq_false (by omega : ¬ ((nt : Nat) : Int) ≤ (i : Nat))]
            dsimp only at hfR
            obtain ⟨tb2, to2, rfl, htr⟩ := src_addr ht (by omega)
            have hrt : RdN [I] tb2 (to2 + i * 3) (tdC y) := rd_part (f := tdC) (fun _ => rfl) htr hy2
            obtain ⟨hyl, hys⟩ := hts y (List.mem_of_getElem? hy2)
            obtain ⟨⟨te, tq, tdat⟩, tsl⟩ := y
            dsimp only at hyl hys hd2 hfR
            obtain ⟨tda, tdc, rfl⟩ := src_slc hys
            have htc := told_c (Z := Z') (I := I) w wa wc hws hwl te tq tdat tda tdc hys hyl d
            repeat (first | refine wZ ?_ | intro b)
            apply qt_valY rfl rfl rfl rfl rfl
            · exact RunS.v (r_index (i := i) rfl rfl rfl hit)
            repeat (first | refine wZ ?_ | intro b)
            apply qt_valY (v := .int .i64 (te : Nat)) rfl rfl rfl rfl rfl
            · exact r_load rfl rfl ((RdN.ent hrt (Ent.pick1 (i := 6) rfl)).get (j := 0) rfl)
            repeat (first | refine wZ ?_ | intro b)
            apply qt_valY rfl rfl rfl rfl rfl
            · exact RunS.v (r_index (i := i) rfl rfl rfl hit)
            repeat (first | refine wZ ?_ | intro b)
            apply qt_valY (v := .int .i64 tq) rfl rfl rfl rfl rfl
            · exact r_load rfl rfl ((RdN.ent hrt (Ent.pick1 (i := 6) rfl)).get (j := 1) rfl)
            repeat (first | refine wZ ?_ | intro b)
            apply qt_valY rfl rfl rfl rfl rfl
            · exact RunS.v (r_index (i := i) rfl rfl rfl hit)
            repeat (first | refine wZ ?_ | intro b)
            apply qt_valY (v := .slice tda tdat.length tdc) rfl rfl rfl rfl rfl
            · exact r_load rfl rfl ((RdN.ent hrt (Ent.pick1 (i := 6) rfl)).get (j := 2) rfl)
            repeat (first | refine wZ ?_ | intro b)
            apply qt_valY (v := .string d) rfl rfl rfl rfl rfl
            · exact r_load rfl rfl (rd_blk 7 rfl rfl)
            repeat (first | refine wZ ?_ | intro b)
            refine qt_callY rfl rfl rfl rfl htc [3, 5] rfl (arr_ent 0 [2, 2, 2, 0, 1, 1, 0] _) ?_
            repeat (first | refine wZ ?_ | intro b)
            cases htd : toldF w (te : Int) tq tdat d with
            | false =>
              rw [htd, if_pos ⟨rfl, rfl⟩] at hfR
              repeat (first | refine wZ ?_ | intro b)
              exact e_ret1 _ rfl rfl ⟨by rw [hfR]; rfl, rfl⟩ (arr_ent 7 [6] _)
            | true =>
              rw [htd, if_neg (by simp), if_neg (by simp)] at hfR
              repeat (first | refine wZ ?_ | intro b)
              refine at_intro ⟨i + 1, s2, xs', es', Z', sa', sc', ga', gc'⟩ ⟨⟨hlt, hok2, hv', hl2, hfR⟩, by dsimp only; omega⟩ ⟨rfl, rfl, rfl, rfl, rfl, rfl, rfl, rfl, rfl, trivial⟩ ?_
              dsimp only
              rw [hl2]
              exact arr_ent 2 [1, 1, 1, 1, 1, 1] _
          · skip
            rw [List.drop_eq_nil_of_le (by rw [List.length_map]; omega : (TL.map (·.1)).length ≤ i)] at hfR
            rw [decide_eq_true (by omega : ((nt : Nat) : Int) ≤ (i : Nat))]
            repeat (first | refine wZ ?_ | intro b)
            exact e_ret1 _ rfl rfl ⟨by rw [hfR]; rfl, rfl⟩ (arr_ent 7 [6] _)
    · obtain rfl : i = nl := by omega
      rw [List.drop_eq_nil_of_le (by rw [List.length_map]; omega : (ls.map (·.1)).length ≤ i), fitR_nil] at hfR
      rw [hfR, fitV_r]
      have hxl : xs.length = s.ys.length := by rw [← hv.ys, List.length_map]
      have hl0 : 0 < xs.length := by have := hsin.l0; omega
      obtain ⟨x, hx⟩ : ∃ x, xs[0]? = some x := ⟨xs[0], List.getElem?_eq_getElem hl0⟩
      have hxo := hv.ok x (List.mem_of_getElem? hx)
      have hbb : baseB s = x.y.bytes := by
        unfold baseB
        rw [← hv.ys, List.getElem?_map, hx]
        rfl
      have hfc := fits_c (Z := Z) (D := I) x.y.bytes out x.va oa x.y.bytes.length x.vc out.length oc hxo.b ho (by have := hxo.bn; omega) hol
      have hpl2 := hsin.pl
      unfold fitE
      rw [List.length_map, List.length_map, htl, hll, hbb]
      repeat (first | refine wZ ?_ | intro b)
      rw [decide_eq_false (by omega : ¬ (i : Int) < (i : Int))]
      repeat (first | refine wZ ?_ | intro b)
      by_cases hnt : nt = i
      · rw [decide_eq_true (by omega : ((nt : Nat) : Int) = (i : Nat))]
        repeat (first | refine wZ ?_ | intro b)
        refine l_yes rfl rfl rfl ?_
        apply s_val rfl rfl
        · exact RunS.v (r_index (i := 0) rfl rfl rfl hl0)
        repeat (first | refine wZ ?_ | intro b)
        refine l_yes rfl rfl rfl ?_
        apply s_val (v := .slice x.va x.y.bytes.length x.vc) rfl rfl
        · exact r_load rfl rfl (rd_blk 1 rfl (lc_get hx 2 (by decide)))
        repeat (first | refine wZ ?_ | intro b)
        refine l_yes rfl rfl rfl (s_call rfl rfl hfc [2, 4] rfl ?_ (fun _ _ h => h.elim))
        rintro _ _ ⟨rfl, rfl⟩
        cases hff : fitsF x.y.bytes out with
        | false =>
          rw [if_pos (by simp)]
          repeat (first | refine wZ ?_ | intro b)
          exact e_ret1 _ rfl rfl ⟨rfl, rfl⟩ (arr_ent 5 [1] _)
        | true =>
          rw [if_neg (by simp [hnt])]
          repeat (first | refine wZ ?_ | intro b)
          cases hvg : s.vg with
          | true =>
            rw [if_pos rfl]
            repeat (first | refine wZ ?_ | intro b)
            exact e_ret1 _ rfl rfl ⟨rfl, rfl⟩ (arr_ent 5 [1] _)
          | false =>
            rw [if_neg (by simp)]
            repeat (first | refine wZ ?_ | intro b)
            by_cases hpn : pts.length = s.pts.length
            · rw [decide_eq_true (by omega : ((pts.length : Nat) : Int) = (s.pts.length : Nat))]
              repeat (first | refine wZ ?_ | intro b)
              refine G.ent (Ent.trans (arr_ent 0 [5] _) (Ent.refl _)) ?_
              refine src_sl1 fun hgs hgc => ?_
              refine c_loop (α := Nat) (fun y => [(121, .int .i64 (y : Nat)), (120, .int .i64 (pts.length : Nat)), (5, .slice pa pts.length pc), (13, .pointer (some ⟨sb, 0, none⟩))])
                (fun _ => slP (.slice ga s.pts.length gc) 2 1 (ints s.pts) :: blk sb (cl [.slice (some ⟨lb, 0, none⟩) xs.length lcap, .slice ga s.pts.length gc, .bool s.ls, .bool false, .bool s.ms] 75) :: blk lb (cl (xs.flatMap lvCells ++ rest) 80) :: Z :: I :: slG (.slice sa es.length sc) 139 2 (es.flatMap leCells) :: F) (fun y => y ≤ pts.length ∧ pts.take y = s.pts.take y) (fun y => pts.length - y) 0
                ⟨Nat.zero_le _, rfl⟩ (by exact ⟨rfl, rfl, rfl, rfl, trivial⟩) (arr_ent 0 [0, 2, 2, 0, 0, 0] _) ?_
              rintro k ⟨hk1, hk2⟩
              by_cases hkl : k < pts.length
              · obtain ⟨pb, po, rfl, hpr⟩ := src_addr hp (by omega)
                obtain ⟨gb, go, rfl, hgr⟩ := src_addr hgs (by omega)
                obtain ⟨u, hu⟩ : ∃ u, pts[k]? = some u := ⟨pts[k], List.getElem?_eq_getElem hkl⟩
                obtain ⟨u2, hu2⟩ : ∃ u2, s.pts[k]? = some u2 := ⟨s.pts[k]'(by omega), List.getElem?_eq_getElem (by omega)⟩
                repeat (first | refine wZ ?_ | intro b)
                rw [decide_eq_true (by omega : (k : Int) < (pts.length : Int))]
                repeat (first | refine wZ ?_ | intro b)
                apply qt_val rfl rfl rfl
                · exact RunS.v (r_index (i := k) rfl rfl rfl hkl)
                repeat (first | refine wZ ?_ | intro b)
                apply qt_val (v := .int .i64 u) rfl rfl rfl
                · refine r_load rfl rfl ?_
                  rw [show po + k * 1 = po + k from by omega]
                  exact (RdN.ent hpr (Ent.pick1 (i := 4) rfl)).get (j := k) (by rw [ints_get, hu]; rfl)
                repeat (first | refine wZ ?_ | intro b)
                apply qt_val rfl rfl rfl
                · exact RunS.v (r_index (i := k) rfl rfl rfl (by omega))
                repeat (first | refine wZ ?_ | intro b)
                apply qt_val (v := .int .i64 u2) rfl rfl rfl
                · refine r_load rfl rfl ?_
                  rw [show go + k * 1 = go + k from by omega]
                  exact (RdN.ent hgr (Ent.pick1 (i := 0) rfl)).get (j := k) (by rw [ints_get, hu2]; rfl)
                repeat (first | refine wZ ?_ | intro b)
                by_cases hue : u = u2
                · rw [decide_eq_true hue]
                  repeat (first | refine wZ ?_ | intro b)
                  refine at_intro (k + 1) ⟨⟨hkl, ?_⟩, by omega⟩ ⟨rfl, rfl, rfl, rfl, trivial⟩ (Ent.refl _)
                  rw [List.take_add_one, List.take_add_one, hk2, hu, hu2, hue]
                · rw [decide_eq_false hue]
                  repeat (first | refine wZ ?_ | intro b)
                  exact e_ret1 _ rfl rfl ⟨by rw [decide_eq_false fun h => hue (by rw [h, hu2] at hu; exact (Option.some.inj hu).symm)], rfl⟩ (arr_ent 5 [4] _)
              · obtain rfl : k = pts.length := by omega
                repeat (first | refine wZ ?_ | intro b)
                rw [decide_eq_false (by omega : ¬ (pts.length : Int) < (pts.length : Int))]
                repeat (first | refine wZ ?_ | intro b)
                rw [List.take_length, hpn, List.take_length] at hk2
                exact e_ret1 _ rfl rfl ⟨by rw [decide_eq_true hk2], rfl⟩ (arr_ent 5 [4] _)
            · rw [decide_eq_false (by omega : ¬ ((pts.length : Nat) : Int) = (s.pts.length : Nat)), decide_eq_false (fun h => hpn (by rw [h]))]
              repeat (first | refine wZ ?_ | intro b)
              exact e_ret1 _ rfl rfl ⟨rfl, rfl⟩ (arr_ent 5 [1] _)
      · rw [decide_eq_false (by omega : ¬ ((nt : Nat) : Int) = (i : Nat)), if_pos (.inl hnt)]
        repeat (first | refine wZ ?_ | intro b)
        exact e_ret1 _ rfl rfl ⟨rfl, rfl⟩ (arr_ent 5 [5] _)
  · rw [if_pos hall]
    repeat (first | refine wZ ?_ | intro b)
    exact e_ret1 _ rfl rfl ⟨rfl, rfl⟩ (Ent.refl _)
end
end Go.Proofs.YtfebpbflpdppiaaGreatDoor
namespace Go.Proofs.YtfebpbflpdppiaaGreatDoor
open Go Go.Sl
set_option maxRecDepth 100000
/-- where the walk stands -/
structure GSt where
  i : Nat
  t : Bool
  s : SS
  xs : List LV
  es : List LE
  Z : HP
  la : Option Addr
  lc : Nat
  pa : Option Addr
  pc : Nat
attribute [local irreducible] wpList Code.wp Exit.then Exit.inBlock bodyPost RunS RunV G St Ct Sat Ent At Rd GQ QL wpAny wpOp wpQuiet slP Sl.ex sep
end Go.Proofs.YtfebpbflpdppiaaGreatDoor
namespace Go.Proofs.YtfebpbflpdppiaaGreatDoor
open Go Go.Sl
set_option maxRecDepth 100000
/-- a layer of a run: what is small -/
structure Lok (n T : Nat) (y : Ly) : Prop where
  b : y.bytes.length + T ≤ 600000
  w : y.wrote.length ≤ 600000
  sh : y.shadow ≤ 600000
  n : y.levels.length ≤ n
  l : ∀ e ∈ y.levels, e.1.length + T ≤ 600000 ∧ e.2.length ≤ 600000
structure Sok (n : Nat) (s : SS) : Prop where
  l0 : 0 < s.ys.length
  l1 : s.ys.length ≤ 7
  bs : ∀ (k : Nat) (y : Ly), s.ys[k + 1]? = some y → y.kd ≠ .base
  of : ∀ y ∈ s.ys, y.off ≤ 65536
  r0 : ∀ y ∈ s.ys, y.kd = .roll → y.off = 0
  ok : ∀ (k : Nat) (y : Ly), s.ys[k]? = some y → Lok n (oSum s.ys k) y
  p : s.pts.length ≤ n
theorem oSum_le {l : List Ly} (h : ∀ y ∈ l, y.off ≤ 65536) : ∀ k, oSum l k ≤ 65536 * k
  | 0 => Nat.le_refl _
  | k + 1 => by
    have ih := oSum_le h k
    unfold oSum
    cases hx : l[k + 1]? with
    | none => dsimp only; omega
    | some x => dsimp only; have := h x (List.mem_of_getElem? hx); omega
theorem oSum_congr {l l' : List Ly} (h : l.map (·.off) = l'.map (·.off)) : ∀ k, oSum l k = oSum l' k
  | 0 => rfl
  | k + 1 => by
    have ih := oSum_congr h k
    have e : (l[k + 1]?).map (·.off) = (l'[k + 1]?).map (·.off) := by rw [← List.getElem?_map, ← List.getElem?_map, h]
    unfold oSum
    rw [ih]
    cases h1 : l[k + 1]? with
    | none =>
      rw [h1] at e
      cases h2 : l'[k + 1]? with
      | none => rfl
      | some y => rw [h2] at e; cases e
    | some x =>
      rw [h1] at e
      cases h2 : l'[k + 1]? with
      | none => rw [h2] at e; cases e
      | some y =>
        rw [h2] at e
        simp only [Option.map_some, Option.some.injEq] at e
        dsimp only
        rw [e]
theorem oSum_step (l : List Ly) (k : Nat) : oSum l k ≤ oSum l (k + 1) := by
  conv => rhs; unfold oSum
  exact Nat.le_add_right _ _
theorem oSum_mono (l : List Ly) {j k : Nat} (h : j ≤ k) : oSum l j ≤ oSum l k := by
  induction h with
  | refl => exact Nat.le_refl _
  | step h ih => exact Nat.le_trans ih (oSum_step l _)
theorem Lok.up {n T : Nat} {y : Ly} (h : Lok n T y) : Lok (n + 1) T y := ⟨h.b, h.w, h.sh, Nat.le_succ_of_le h.n, h.l⟩
theorem Sok.up {n : Nat} {s : SS} (h : Sok n s) : Sok (n + 1) s := ⟨h.l0, h.l1, h.bs, h.of, h.r0, fun k y hy => (h.ok k y hy).up, Nat.le_succ_of_le h.p⟩
theorem Sok.oS {n : Nat} {s : SS} (h : Sok n s) (k : Nat) (hk : k < s.ys.length) : oSum s.ys k ≤ 393216 := by
  have := oSum_le h.of k
  have := h.l1
  omega
theorem Sok.same {n : Nat} {s s' : SS} (h : Sok n s) (hs : s'.ys = s.ys) (hp : s'.pts.length ≤ n + 1) : Sok (n + 1) s' := by
  have := h.up
  obtain ⟨ys, pts, a, c, d⟩ := s'
  dsimp only at hs hp
  subst hs
  exact ⟨this.l0, this.l1, this.bs, this.of, this.r0, this.ok, hp⟩
/-- one layer is changed -/
theorem Sok.set {n : Nat} {s s' : SS} (h : Sok n s) {j : Nat} {y y' : Ly} (hy : s.ys[j]? = some y) (hs : s'.ys = s.ys.set j y') (hk : y'.kd = y.kd) (ho : y'.off = y.off) (hl : Lok (n + 1) (oSum s.ys j) y') (hp : s'.pts.length ≤ n + 1) : Sok (n + 1) s' := by
  have hkk := hk
  have hjl : j < s.ys.length := (List.getElem?_eq_some_iff.1 hy).1
  have hm : s'.ys.map (·.off) = s.ys.map (·.off) := by rw [hs]; exact set_map (fun x : Ly => x.off) hy ho
  have hget : ∀ (k : Nat) (z : Ly), s'.ys[k]? = some z → (k = j ∧ z = y') ∨ s.ys[k]? = some z := fun k z hz => by
    rw [hs, List.getElem?_set] at hz
    by_cases hkj : j = k
    · rw [if_pos hkj, if_pos hjl] at hz
      exact .inl ⟨hkj.symm, (Option.some.inj hz).symm⟩
    · rw [if_neg hkj] at hz
      exact .inr hz
  refine ⟨by rw [hs, List.length_set]; exact h.l0, by rw [hs, List.length_set]; exact h.l1, fun k z hz => ?_, fun z hz => ?_, fun z hz => ?_, fun k z hz => ?_, hp⟩
  · rcases hget _ _ hz with ⟨e1, rfl⟩ | h2
    · rw [hk]
      exact h.bs k y (by rw [e1]; exact hy)
    · exact h.bs k z h2
  · obtain ⟨k, hk⟩ := List.mem_iff_getElem?.1 hz
    rcases hget _ _ hk with ⟨_, rfl⟩ | h2
    · rw [ho]
      exact h.of y (List.mem_of_getElem? hy)
    · exact h.of z (List.mem_of_getElem? h2)
  · obtain ⟨k, hk⟩ := List.mem_iff_getElem?.1 hz
    rcases hget _ _ hk with ⟨_, rfl⟩ | h2
    · intro hr
      rw [ho]
      exact h.r0 y (List.mem_of_getElem? hy) (by rw [← hr, hkk])
    · exact h.r0 z (List.mem_of_getElem? h2)
  · rw [oSum_congr hm]
    rcases hget _ _ hz with ⟨rfl, rfl⟩ | h2
    · exact hl
    · exact (h.ok k z h2).up
/-- a change: at one layer, or none -/
theorem chF_shape (l : List Ly) (wr : Bool) (b : List Int) : ∀ k o, k < l.length → ((chF l k wr o b).1 = l ∧ (chF l k wr o b).2.1 = false) ∨ ∃ j y y' o', l[j]? = some y ∧ (chF l k wr o b).1 = l.set j y' ∧ j ≤ k ∧ o' + oSum l j = o + oSum l k ∧ ((j = 0 ∧ y' = chB0 y wr o' b) ∨ (y.kd = .roll ∧ y' = chL y wr o' b)) := by
  intro k
  induction k with
  | zero =>
    intro o hk
    obtain ⟨x, hx⟩ : ∃ x, l[0]? = some x := ⟨l[0], List.getElem?_eq_getElem hk⟩
    refine .inr ⟨0, x, chB0 x wr o b, o, hx, ?_, Nat.le_refl _, rfl, .inl ⟨rfl, rfl⟩⟩
    unfold chF
    rw [hx]
  | succ k ih =>
    intro o hk
    obtain ⟨x, hx⟩ : ∃ x, l[k + 1]? = some x := ⟨l[k + 1], List.getElem?_eq_getElem hk⟩
    have hos : oSum l (k + 1) = oSum l k + x.off := by
      conv => lhs; unfold oSum
      rw [hx]
    have hin : x.kd ≠ .roll → (chF l (k + 1) wr o b) = chF l k wr (o + x.off) b := fun h => by
      conv => lhs; unfold chF
      rw [hx]
      cases hk : x.kd with
      | base => simp only [hk]
      | inner => simp only [hk]
      | roll => exact absurd hk h
    by_cases hr : x.kd = .roll
    · by_cases hl : x.levels = []
      · left
        unfold chF
        rw [hx]
        simp only [hr, hl]
        exact ⟨trivial, trivial⟩
      · refine .inr ⟨k + 1, x, chL x wr o b, o, hx, ?_, Nat.le_refl _, rfl, .inr ⟨hr, rfl⟩⟩
        unfold chF
        rw [hx]
        simp only [hr]
    · rw [hin hr]
      rcases ih (o + x.off) (by omega) with h | ⟨j, y, y', o', h1, h2, h3, h4, h5⟩
      · exact .inl h
      · exact .inr ⟨j, y, y', o', h1, h2, by omega, by omega, h5⟩
theorem view_len {n : Nat} {s : SS} (h : Sok n s) : ∀ k, k < s.ys.length → (viewF s.ys k).length + oSum s.ys k ≤ 600000
  | 0, hk => by
    obtain ⟨x, hx⟩ : ∃ x, s.ys[0]? = some x := ⟨s.ys[0], List.getElem?_eq_getElem hk⟩
    have := (h.ok 0 x hx).b
    unfold viewF
    rw [hx]
    exact this
  | k + 1, hk => by
    have ih := view_len h k (by omega)
    obtain ⟨x, hx⟩ : ∃ x, s.ys[k + 1]? = some x := ⟨s.ys[k + 1], List.getElem?_eq_getElem hk⟩
    have hl := h.ok (k + 1) x hx
    have ho := h.oS (k + 1) hk
    have hv : viewF s.ys (k + 1) = vwAt x (viewF s.ys k) := by
      conv => lhs; unfold viewF
      rw [hx]
    have hos : oSum s.ys (k + 1) = oSum s.ys k + x.off := by
      conv => lhs; unfold oSum
      rw [hx]
    rw [hv]
    unfold vwAt
    cases hkd : x.kd with
    | roll =>
      have h0 := h.r0 x (List.mem_of_getElem? hx) hkd
      cases hlv : x.levels with
      | nil =>
        dsimp only
        omega
      | cons e es =>
        dsimp only
        exact hl.b
    | inner =>
      dsimp only
      rw [List.length_drop]
      omega
    | base =>
      dsimp only
      rw [List.length_drop]
      omega
theorem chL_len {n T : Nat} {y : Ly} (h : Lok n T y) (hT : T ≤ 393216) (wr : Bool) (o : Nat) (b : List Int) (ho : o + T + b.length ≤ 600000) : Lok n T (chL y wr o b) := by
  obtain ⟨h1, h2, h3, h4, h5⟩ := h
  have hsh : (if o < y.bytes.length then max y.shadow y.bytes.length else y.shadow) ≤ 600000 := by split <;> omega
  cases wr with
  | true =>
    refine ⟨?_, ?_, h3, h4, h5⟩
    · show (wrF (grF y.bytes y.shadow (o + b.length)) o b).length + T ≤ 600000
      rw [wrF_length, grF_length]
      omega
    · show (mkF y.wrote o b.length).length ≤ 600000
      rw [mkF_length]
      omega
  | false =>
    refine ⟨?_, ?_, hsh, h4, h5⟩
    · show (cutF (grF y.bytes _ o) o).length + T ≤ 600000
      rw [cutF_length]
      omega
    · show (y.wrote.take o).length ≤ 600000
      rw [List.length_take]
      omega
theorem chB0_len {n T : Nat} {y : Ly} (h : Lok n T y) (wr : Bool) (o : Nat) (b : List Int) (ho : o + T + b.length ≤ 600000) : Lok n T (chB0 y wr o b) := by
  obtain ⟨h1, h2, h3, h4, h5⟩ := h
  cases wr with
  | true =>
    refine ⟨?_, h2, h3, h4, h5⟩
    show (wrF y.bytes o b).length + T ≤ 600000
    rw [wrF_length]
    omega
  | false =>
    refine ⟨?_, h2, h3, h4, h5⟩
    show (cutF y.bytes o).length + T ≤ 600000
    rw [cutF_length]
    omega
theorem chS_ok {n : Nat} {s : SS} (h : Sok n s) (wr : Bool) (o : Nat) (b : List Int) (ho : o + b.length ≤ 196608) : Sok (n + 1) (chS s wr o b) := by
  have hl0 := h.l0
  have hK : lastK s < s.ys.length := by unfold lastK; omega
  have hos := h.oS _ hK
  rcases chF_shape s.ys wr b (lastK s) o hK with ⟨h1, _⟩ | ⟨j, y, y', o', h1, h2, h3, h4, h5⟩
  · exact h.same (s' := chS s wr o b) h1 (Nat.le_succ_of_le h.p)
  · have hm := oSum_mono s.ys h3
    have hyl := (h.ok j y h1).up
    refine h.set h1 (s' := chS s wr o b) h2 ?_ ?_ ?_ (Nat.le_succ_of_le h.p)
    · rcases h5 with ⟨_, rfl⟩ | ⟨_, rfl⟩ <;> rfl
    · rcases h5 with ⟨_, rfl⟩ | ⟨_, rfl⟩ <;> rfl
    · rcases h5 with ⟨_, rfl⟩ | ⟨_, rfl⟩
      · exact chB0_len hyl wr o' b (by omega)
      · exact chL_len hyl (by omega) wr o' b (by omega)
theorem endY_ok {n : Nat} {s : SS} (h : Sok n s) (j : Nat) (x : Ly) (hx : s.ys[j + 1]? = some x) : Sok (n + 1) { s with ys := endY s j x } := by
  obtain ⟨h1, h2, h3, h4, h5⟩ := h.ok (j + 1) x hx
  exact h.set hx rfl rfl rfl ⟨h1, h2, h3, by show x.levels.dropLast.length ≤ _; rw [List.length_dropLast]; omega, fun e he => h5 e (List.dropLast_subset _ he)⟩ (Nat.le_succ_of_le h.p)
theorem bec_ok {n : Nat} {s : SS} (h : Sok n s) (j : Nat) (hj : j < s.ys.length) (p : List Int) (hp : p.length + oSum s.ys j ≤ 600000) {s' : SS} (hs : s'.ys = becF s.ys j p) (hq : s'.pts.length ≤ n + 1) : Sok (n + 1) s' := by
  obtain ⟨x, hx⟩ : ∃ x, s.ys[0]? = some x := ⟨s.ys[0]'(by omega), List.getElem?_eq_getElem (by omega)⟩
  obtain ⟨h1, h2, h3, h4, h5⟩ := h.ok 0 x hx
  have hb : becF s.ys j p = s.ys.set 0 { x with bytes := cutF x.bytes (oSum s.ys j) ++ p } := by unfold becF; rw [hx]
  rw [hb] at hs
  refine h.set hx hs rfl rfl ⟨?_, h2, h3, by show x.levels.length ≤ _; omega, h5⟩ hq
  show (cutF x.bytes (oSum s.ys j) ++ p).length + 0 ≤ 600000
  rw [List.length_append, cutF_length]
  omega
theorem deed_ok {n : Nat} {s : SS} (h : Sok n s) (j : Nat) (x : Ly) (hx : s.ys[j + 1]? = some x) (hkd : x.kd = .roll) (d : DK) : Sok (n + 2) (deedAt s j x d).1 := by
  have hjl : j + 1 < s.ys.length := (List.getElem?_eq_some_iff.1 hx).1
  have hl := h.ok (j + 1) x hx
  have hv := view_len h j (by omega)
  have ho := h.oS (j + 1) hjl
  have hstep := oSum_step s.ys j
  have h0 := h.r0 x (List.mem_of_getElem? hx) hkd
  have hos : oSum s.ys (j + 1) = oSum s.ys j + x.off := by
    conv => lhs; unfold oSum
    rw [hx]
  have hpu := Nat.le_succ_of_le h.p
  obtain ⟨h1, h2, h3, h4, h5⟩ := hl
  have hE := endY_ok h j x hx
  cases d with
  | begin =>
    refine Sok.up (h.set hx rfl (begY_kd s j x).1 (begY_kd s j x).2 ?_ hpu)
    unfold begY
    split
    · refine ⟨by dsimp only; omega, Nat.zero_le _, Nat.zero_le _, by simp; omega, fun e he => ?_⟩
      rcases List.mem_append.1 he with he | he
      · exact h5 e he
      · simp only [List.mem_singleton] at he
        subst he
        exact ⟨by dsimp only; omega, Nat.zero_le _⟩
    · refine ⟨h1, h2, h3, by simp; omega, fun e he => ?_⟩
      rcases List.mem_append.1 he with he | he
      · exact h5 e he
      · simp only [List.mem_singleton] at he
        subst he
        exact ⟨h1, h2⟩
  | roll =>
    rw [deedAt_roll]
    split
    · exact h.up.up
    · rename_i hne
      have hlm : lastL x ∈ x.levels := by
        unfold lastL
        rw [List.getLast?_eq_some_getLast hne]
        exact List.getLast_mem hne
      obtain ⟨q1, q2⟩ := h5 _ hlm
      exact Sok.up (h.set (s' := rollF s j x) hx rfl rfl rfl ⟨q1, q2, h3, by show x.levels.dropLast.length ≤ _; rw [List.length_dropLast]; omega, fun e he => h5 e (List.dropLast_subset _ he)⟩ hpu)
  | fin =>
    rw [deedAt_fin]
    split
    · exact h.up.up
    · have hoe : oSum (endY s j x) j = oSum s.ys j := by
        refine oSum_congr ?_ j
        unfold endY
        exact set_map (fun x : Ly => x.off) hx rfl
      have hlen : j < (endY s j x).length := by unfold endY; rw [List.length_set]; omega
      dsimp only
      unfold endF
      split
      · exact hE.up
      · split
        · exact hE.same rfl (Nat.le_succ_of_le hpu)
        · split
          · exact bec_ok hE j hlen x.bytes (by show _ + oSum (endY s j x) j ≤ _; rw [hoe]; omega) rfl (Nat.le_succ_of_le hpu)
          · refine bec_ok hE j hlen x.bytes (by show _ + oSum (endY s j x) j ≤ _; rw [hoe]; omega) rfl ?_
            have := h.p
            dsimp only
            split
            · rw [List.length_append, List.length_singleton]; omega
            · omega
theorem doF_ok {n : Nat} {s : SS} (h : Sok n s) (x : Stp) (hx : x.few) : Sok (n + 2) (doF s x.d x.off x.n x.bs).1 ∧ (doF s x.d x.off x.n x.bs).2.1.b.length ≤ 600000 := by
  obtain ⟨⟨_, ho⟩, ⟨_, hn⟩, hb⟩ := hx
  have hs : Sok (n + 2) s := h.up.up
  have hl : ∀ v g m, Sok (n + 2) (⟨s.ys, s.pts, v, g, m⟩ : SS) := fun v g m => (h.same (s' := ⟨s.ys, s.pts, v, g, m⟩) rfl (Nat.le_succ_of_le h.p)).up
  have h0 : (0 : Nat) ≤ 600000 := Nat.zero_le _
  have hde : ∀ d, Sok (n + 2) (doDe s d).1 ∧ (doDe s d).2.1.b.length ≤ 600000 := fun d => by
    unfold doDe
    split
    · exact ⟨hs, h0⟩
    · rename_i ht
      refine ⟨?_, h0⟩
      dsimp only
      unfold deedT
      cases hx : s.ys[topF s.ys]? with
      | none => exact hs
      | some y =>
        obtain ⟨j, hj⟩ : ∃ j, topF s.ys = j + 1 := ⟨topF s.ys - 1, by omega⟩
        have hk := topF_isR (by omega) hx
        dsimp only
        rw [hj] at hx ⊢
        rw [Nat.add_sub_cancel]
        exact deed_ok h j y hx hk d
  unfold doF
  split
  · exact ⟨hl _ _ _, h0⟩
  split
  · unfold doW
    split
    · split
      · exact ⟨hs, h0⟩
      · exact ⟨hs, h0⟩
    · split
      · exact ⟨hl _ _ _, h0⟩
      · exact ⟨(chS_ok h true _ _ (by rw [kn_length]; omega)).up, h0⟩
  split
  · unfold doRd
    split
    · exact ⟨hl _ _ _, h0⟩
    · split
      · exact ⟨hs, h0⟩
      · refine ⟨hs, ?_⟩
        have hl0 := h.l0
        have hv := view_len h (lastK s) (by unfold lastK; omega)
        dsimp only
        rw [List.length_drop, List.length_take]
        omega
  split
  · exact ⟨hs, h0⟩
  split
  · unfold doTr
    split
    · split
      · exact ⟨hl _ _ _, h0⟩
      · exact ⟨hs, h0⟩
    · exact ⟨(chS_ok h false _ _ (by simp; omega)).up, h0⟩
  split
  · unfold doPu
    split
    · exact ⟨hs, h0⟩
    · split
      · exact ⟨hl _ _ _, h0⟩
      · split <;> exact ⟨hs, h0⟩
  split
  · exact hde _
  split
  · exact hde _
  split
  · exact hde _
  split
  · exact ⟨hs, h0⟩
  · exact ⟨hl _ _ _, h0⟩
def OkS (i : Nat) (s : SS) : Prop := i ≤ 200 ∧ Sok (2 * i) s
theorem okS : OkI OkS where
  sin i s h := by
    obtain ⟨hi, h⟩ := h
    refine ⟨h.l0, h.l1, h.bs, fun k hk => by have := h.oS k hk; omega, by have := h.p; omega, fun y hy => ?_⟩
    obtain ⟨k, hk⟩ := List.mem_iff_getElem?.1 hy
    have := (h.ok k y hk).n
    omega
  sm i s h y hy := by
    obtain ⟨hi, h⟩ := h
    obtain ⟨k, hk⟩ := List.mem_iff_getElem?.1 hy
    have hk2 := h.ok k y hk
    have := h.of y hy
    exact ⟨by have := hk2.b; omega, by have := hk2.w; omega, by omega, by have := hk2.sh; omega, by have := hk2.n; omega⟩
  st i s x h hi hx := ⟨by omega, (doF_ok h.2 x hx).1⟩
  w i s x h hi hx := by
    have := (doF_ok h.2 x hx).2
    omega
theorem okS0 (ib : List UInt8) (ly : List (ByteArray × Int)) (hi : ib.length ≤ 65536) (hl : ly.length ≤ 6) (ho : ∀ y ∈ ly, 0 ≤ y.2 ∧ y.2 ≤ 65536) : OkS 0 (s0 ib ly) := by
  have hoff : ∀ y ∈ (s0 ib ly).ys, y.off ≤ 65536 := fun y hy => by
    unfold s0 at hy
    rcases List.mem_cons.1 hy with rfl | hy
    · exact Nat.zero_le _
    · obtain ⟨z, hz, rfl⟩ := List.mem_map.1 hy
      have := ho z hz
      unfold lyY
      split <;> dsimp only <;> omega
  refine ⟨by omega, by simp [s0], by simp [s0]; omega, fun k y hy => ?_, fun y hy => ?_, fun y hy => ?_, fun k y hy => ?_, by simp [s0]⟩
  · unfold s0 at hy
    simp only [List.getElem?_cons_succ, List.getElem?_map] at hy
    cases h1 : ly[k]? with
    | none => rw [h1] at hy; cases hy
    | some z =>
      rw [h1] at hy
      cases hy
      unfold lyY
      split <;> exact fun h => by cases h
  · exact hoff y hy
  · unfold s0 at hy
    rcases List.mem_cons.1 hy with rfl | hy
    · exact fun _ => rfl
    · obtain ⟨z, hz, rfl⟩ := List.mem_map.1 hy
      unfold lyY
      split
      · exact fun h => by cases h
      · exact fun _ => rfl
  · have hoS : oSum (s0 ib ly).ys k ≤ 600000 := by
      have h1 := oSum_le hoff k
      have h2 := (List.getElem?_eq_some_iff.1 hy).1
      have h3 : (s0 ib ly).ys.length = ly.length + 1 := by simp [s0]
      omega
    unfold s0 at hy
    cases k with
    | zero =>
      simp only [List.getElem?_cons_zero, Option.some.injEq] at hy
      subst hy
      exact ⟨by show (kn ib).length + 0 ≤ 600000; rw [kn_length]; omega, Nat.zero_le _, Nat.zero_le _, Nat.zero_le _, fun e he => by simp at he⟩
    | succ k =>
      simp only [List.getElem?_cons_succ, List.getElem?_map] at hy
      cases h1 : ly[k]? with
      | none => rw [h1] at hy; cases hy
      | some z =>
        rw [h1] at hy
        cases hy
        obtain ⟨q1, q2, q3, q4⟩ := lyY_lev z
        refine ⟨by rw [q2]; show 0 + _ ≤ 600000; omega, by rw [q3]; exact Nat.zero_le _, by rw [q4]; exact Nat.zero_le _, by rw [q1]; exact Nat.zero_le _, fun e he => by rw [q1] at he; simp at he⟩
end Go.Proofs.YtfebpbflpdppiaaGreatDoor
namespace Go.Proofs.YtfebpbflpdppiaaGreatDoor
open Go Go.Sl
set_option maxRecDepth 100000
attribute [local irreducible] wpList Code.wp Exit.then Exit.inBlock bodyPost RunS RunV G St Ct Sat Ent At Rd GQ QL wpAny wpOp wpQuiet slP Sl.ex sep
section
variable {I : HP}
theorem copied_c (bs : List UInt8) (a : Option Addr) (n c : Nat) (hs : Src [I] 1 (.slice a n c) n (u8s bs)) (hn : n ≤ 10000000) :
    Ct Tryz.prog 10 #[.slice a n c] [I] (fun v B => ∃ a' c', v = .slice a' n c' ∧ B = [I, slP (.slice a' n c') 5 1 (u8s bs)]) nev := by
  refine Ct.of Tryz.func10 rfl Tryz.ntmps10 rfl fun m F => ?_
  repeat (first | refine wZ ?_ | intro b)
  refine G.ent (L' := slP (.slice none 0 0) 5 1 [] :: I :: F) slP_nil ?_
  refine l_plain rfl (s_append (i := 0) rfl rfl rfl (RE hs 1 rfl) rfl rfl rfl (u8s_one _) (by omega) (by simp only [maxLen]; omega) rfl ?_)
  intro a1 c1
  rw [List.nil_append, Nat.zero_add]
  repeat (first | refine wZ ?_ | intro b)
  exact e_ret1 _ rfl rfl ⟨a1, c1, rfl, rfl⟩ (arr_ent 0 [1, 0] _)
theorem zz2_c (kd : ByteArray) (o : Int) : Ct Tryz.prog 17 #[.agg #[.string kd, .int .i64 o]] [] (fun v B => (∃ q, v = .bool q) ∧ B = []) nev := by
  refine Ct.of Tryz.func17 rfl Tryz.ntmps17 rfl fun m F => ?_
  repeat (first | refine wZ ?_ | intro b)
  by_cases hbig : 2147483647 < (kd.size : Int)
  · rw [decide_eq_true hbig]
    repeat (first | refine wZ ?_ | intro b)
    exact e_ret1 _ rfl rfl ⟨⟨_, rfl⟩, rfl⟩ Ent.drop
  · rw [decide_eq_false hbig]
    repeat (first | refine wZ ?_ | intro b)
    exact e_ret1 _ rfl rfl ⟨⟨_, rfl⟩, rfl⟩ Ent.drop
theorem zz4_c (d : ByteArray) (o n : Int) (a : Option Addr) (k c : Nat) : Ct Tryz.prog 18 #[.agg #[.string d, .int .i64 o, .int .i64 n, .slice a k c]] [] (fun v B => (∃ q, v = .bool q) ∧ B = []) nev := by
  refine Ct.of Tryz.func18 rfl Tryz.ntmps18 rfl fun m F => ?_
  repeat (first | refine wZ ?_ | intro b)
  by_cases hbig : 2147483647 < (d.size : Int)
  · rw [decide_eq_true hbig]
    repeat (first | refine wZ ?_ | intro b)
    exact e_ret1 _ rfl rfl ⟨⟨_, rfl⟩, rfl⟩ Ent.drop
  rw [decide_eq_false hbig]
  repeat (first | refine wZ ?_ | intro b)
  by_cases hb2 : 2147483647 < (k : Int)
  · rw [decide_eq_true hb2]
    repeat (first | refine wZ ?_ | intro b)
    exact e_ret1 _ rfl rfl ⟨⟨_, rfl⟩, rfl⟩ Ent.drop
  · rw [decide_eq_false hb2]
    repeat (first | refine wZ ?_ | intro b)
    exact e_ret1 _ rfl rfl ⟨⟨_, rfl⟩, rfl⟩ Ent.drop
set_option maxHeartbeats 4000000 in
theorem zz1_c (ly : List (ByteArray × Int)) (ya : Option Addr) (ny yc : Nat) (hy : Src [I] 2 (.slice ya ny yc) ny (ly.flatMap lyC)) (hly : ly.length = ny) : Ct Tryz.prog 5 #[.slice ya ny yc] [I] (fun v B => (∃ q, v = .bool q) ∧ B = [I]) nev := by
  refine Ct.of Tryz.func5 rfl Tryz.ntmps5 rfl fun m F => ?_
  repeat (first | refine wZ ?_ | intro b)
  by_cases hbig : 2147483647 < (ny : Int)
  · rw [decide_eq_true hbig]
    repeat (first | refine wZ ?_ | intro b)
    exact e_ret1 _ rfl rfl ⟨⟨_, rfl⟩, rfl⟩ (Ent.refl _)
  rw [decide_eq_false hbig]
  repeat (first | refine wZ ?_ | intro b)
  refine c_loop (α := Nat) (fun y => [(10, .int .i64 (y : Nat)), (9, .int .i64 (ny : Nat)), (8, .slice ya ny yc), (2, .bool false)]) (fun _ => I :: F) (fun y => y ≤ ny) (fun y => ny - y) 0 (Nat.zero_le _) (by exact ⟨rfl, rfl, rfl, rfl, trivial⟩) (Ent.refl _) ?_
  rintro i hi
  by_cases hlt : i < ny
  · obtain ⟨yb, yo, rfl, hyr⟩ := src_addr hy (by omega)
    obtain ⟨x, hx⟩ : ∃ x, ly[i]? = some x := ⟨ly[i]'(by omega), List.getElem?_eq_getElem (by omega)⟩
    have hrd : RdN [I] yb (yo + i * 2) (lyC x) := rd_part (f := lyC) (fun _ => rfl) hyr hx
    repeat (first | refine wZ ?_ | intro b)
    rw [decide_eq_true (by omega : (i : Int) < (ny : Int))]
    repeat (first | refine wZ ?_ | intro b)
    refine l_plain rfl ?_
    apply s_val rfl rfl
    · exact RunS.v (r_index (i := i) rfl rfl rfl hlt)
    obtain ⟨kd, off⟩ := x
    refine l_plain rfl ?_
    apply s_val rfl rfl
    · exact r_loadN (vs := [.string kd, .int .i64 off]) rfl rfl rfl (RdN.ent hrd (Ent.pick1 (i := 0) rfl))
    repeat (first | refine wZ ?_ | intro b)
    refine l_plain rfl (s_call rfl rfl (zz2_c kd off) [] rfl ?_ (fun _ _ h => h.elim))
    rintro _ _ ⟨⟨q, rfl⟩, rfl⟩
    cases q with
    | false =>
      repeat (first | refine wZ ?_ | intro b)
      exact e_ret1 _ rfl rfl ⟨⟨_, rfl⟩, rfl⟩ (arr_ent 1 [1] _)
    | true =>
      repeat (first | refine wZ ?_ | intro b)
      exact at_intro (i + 1) ⟨hlt, by omega⟩ ⟨rfl, rfl, rfl, rfl, trivial⟩ Ent.drop
  · repeat (first | refine wZ ?_ | intro b)
    rw [decide_eq_false (by omega : ¬ (i : Int) < (ny : Int))]
    repeat (first | refine wZ ?_ | intro b)
    exact e_ret1 _ rfl rfl ⟨⟨_, rfl⟩, rfl⟩ (Ent.refl _)
set_option maxHeartbeats 4000000 in
theorem zz3_c (ly : List (Stp × Value)) (hls : ∀ x ∈ ly, ∃ a k c, x.2 = .slice a k c) (ya : Option Addr) (ny yc : Nat) (hy : Src [I] 4 (.slice ya ny yc) ny (ly.flatMap stC)) (hly : ly.length = ny) : Ct Tryz.prog 6 #[.slice ya ny yc] [I] (fun v B => (∃ q, v = .bool q ∧ (q = true → ny ≤ 2147483647)) ∧ B = [I]) nev := by
  refine Ct.of Tryz.func6 rfl Tryz.ntmps6 rfl fun m F => ?_
  repeat (first | refine wZ ?_ | intro b)
  by_cases hbig : 2147483647 < (ny : Int)
  · rw [decide_eq_true hbig]
    repeat (first | refine wZ ?_ | intro b)
    exact e_ret1 _ rfl rfl ⟨⟨false, rfl, fun h => by cases h⟩, rfl⟩ (Ent.refl _)
  rw [decide_eq_false hbig]
  repeat (first | refine wZ ?_ | intro b)
  refine c_loop (α := Nat) (fun y => [(10, .int .i64 (y : Nat)), (9, .int .i64 (ny : Nat)), (8, .slice ya ny yc), (2, .bool false)]) (fun _ => I :: F) (fun y => y ≤ ny) (fun y => ny - y) 0 (Nat.zero_le _) (by exact ⟨rfl, rfl, rfl, rfl, trivial⟩) (Ent.refl _) ?_
  rintro i hi
  by_cases hlt : i < ny
  · obtain ⟨yb, yo, rfl, hyr⟩ := src_addr hy (by omega)
    obtain ⟨x, hx⟩ : ∃ x, ly[i]? = some x := ⟨ly[i]'(by omega), List.getElem?_eq_getElem (by omega)⟩
    have hrd : RdN [I] yb (yo + i * 4) (stC x) := rd_part (f := stC) (fun _ => rfl) hyr hx
    repeat (first | refine wZ ?_ | intro b)
    rw [decide_eq_true (by omega : (i : Int) < (ny : Int))]
    repeat (first | refine wZ ?_ | intro b)
    refine l_plain rfl ?_
    apply s_val rfl rfl
    · exact RunS.v (r_index (i := i) rfl rfl rfl hlt)
    obtain ⟨a, k, c, hsl⟩ := hls x (List.mem_of_getElem? hx)
    obtain ⟨⟨d, off, n, bs⟩, slv⟩ := x
    dsimp only at hsl
    subst hsl
    refine l_plain rfl ?_
    apply s_val rfl rfl
    · exact r_loadN (vs := [.string d, .int .i64 off, .int .i64 n, .slice a k c]) rfl rfl rfl (RdN.ent hrd (Ent.pick1 (i := 0) rfl))
    repeat (first | refine wZ ?_ | intro b)
    refine l_plain rfl (s_call rfl rfl (zz4_c d off n a k c) [] rfl ?_ (fun _ _ h => h.elim))
    rintro _ _ ⟨⟨q, rfl⟩, rfl⟩
    cases q with
    | false =>
      repeat (first | refine wZ ?_ | intro b)
      exact e_ret1 _ rfl rfl ⟨⟨_, rfl, fun _ => by omega⟩, rfl⟩ (arr_ent 1 [1] _)
    | true =>
      repeat (first | refine wZ ?_ | intro b)
      exact at_intro (i + 1) ⟨hlt, by omega⟩ ⟨rfl, rfl, rfl, rfl, trivial⟩ Ent.drop
  · repeat (first | refine wZ ?_ | intro b)
    rw [decide_eq_false (by omega : ¬ (i : Int) < (ny : Int))]
    repeat (first | refine wZ ?_ | intro b)
    exact e_ret1 _ rfl rfl ⟨⟨_, rfl, fun _ => by omega⟩, rfl⟩ (Ent.refl _)
end
end Go.Proofs.YtfebpbflpdppiaaGreatDoor
