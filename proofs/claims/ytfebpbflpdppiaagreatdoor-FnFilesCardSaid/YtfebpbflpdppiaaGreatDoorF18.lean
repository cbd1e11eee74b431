/- The reference's steps. No program · The reference's steps: what they begin with · The reference's steps: sync, and what is none of them · The reference's steps: reads · The reference's steps: truncations, punches. -/
import Derived.Test.YtfebpbflpdppiaaGreatDoorF17
namespace Go.Proofs.YtfebpbflpdppiaaGreatDoor
open Go Go.Sl
set_option maxRecDepth 100000
/-- what is to be told -/
structure Wnt where
  e : Int
  n : Int
  b : List Int
def w0 : Wnt := ⟨0, 0, []⟩
def inT (s : SS) : Bool := match s.ys[topF s.ys]? with
  | some x => decide (0 < x.levels.length)
  | none => false
def lastK (s : SS) : Nat := s.ys.length - 1
def chS (s : SS) (wr : Bool) (o : Nat) (b : List Int) : SS := { s with ys := (chF s.ys (lastK s) wr o b).1, ms := (chF s.ys (lastK s) wr o b).2.1 || s.ms }
def doW (s : SS) (off : Int) (bs : List UInt8) : SS × Wnt × Bool :=
  if off < 0 then (if bs.length = 0 then (s, w0, false) else (s, ⟨-1, 0, []⟩, true))
  else if bs.length = 0 ∧ sizeF s.ys (lastK s) < off then ({ s with ls := true }, w0, false)
  else (chS s true off.toNat (kn bs), ⟨((chF s.ys (lastK s) true off.toNat (kn bs)).2.2 : Nat), if (chF s.ys (lastK s) true off.toNat (kn bs)).2.2 = 0 then (bs.length : Nat) else 0, []⟩, true)
def rdE (s : SS) (n : Int) (p : List Int) (fr to : Nat) : Int := if 0 < topF s.ys ∧ to = p.length ∧ inT s = true then -2 else if ((to - fr : Nat) : Int) < n then 1 else 0
def doRd (s : SS) (off n : Int) : SS × Wnt × Bool :=
  if n < 1 then ({ s with ls := decide (n < 0) }, w0, false)
  else if off < 0 then (s, ⟨-1, 0, []⟩, true)
  else (s, ⟨rdE s n (viewF s.ys (lastK s)) (min off.toNat (viewF s.ys (lastK s)).length) (min (off + n).toNat (viewF s.ys (lastK s)).length), ((min (off + n).toNat (viewF s.ys (lastK s)).length - min off.toNat (viewF s.ys (lastK s)).length : Nat) : Int), ((viewF s.ys (lastK s)).take (min (off + n).toNat (viewF s.ys (lastK s)).length)).drop (min off.toNat (viewF s.ys (lastK s)).length)⟩, true)
def isIn (s : SS) : Bool := match s.ys[lastK s]? with
  | some x => x.kd.isI
  | none => false
def doTr (s : SS) (n : Int) : SS × Wnt × Bool :=
  if n < 0 then (if isIn s = true then ({ s with ls := true }, w0, false) else (s, ⟨-1, 0, []⟩, true))
  else (chS s false n.toNat [], ⟨((chF s.ys (lastK s) false n.toNat []).2.2 : Nat), 0, []⟩, true)
def doPu (s : SS) (off n : Int) : SS × Wnt × Bool :=
  if topF s.ys = 0 then (s, w0, false)
  else if inT s = true then ({ s with ls := true }, w0, false)
  else if off < 0 ∨ n < 0 then (s, ⟨-1, 0, []⟩, true)
  else (s, ⟨3, 0, []⟩, true)
def deedT (s : SS) (d : DK) : SS × Nat := match s.ys[topF s.ys]? with
  | some x => deedAt s (topF s.ys - 1) x d
  | none => (s, 0)
def doDe (s : SS) (d : DK) : SS × Wnt × Bool :=
  if topF s.ys = 0 then (s, w0, false)
  else ((deedT s d).1, ⟨(deedT s d).2, 0, []⟩, !(deedT s d).1.ls)
def doF (s : SS) (d : ByteArray) (off n : Int) (bs : List UInt8) : SS × Wnt × Bool :=
  if s.ls = true ∨ off < -262144 ∨ n < -262144 ∨ shortF s.ys = true then ({ s with ls := true }, w0, false)
  else if d = sWrite then doW s off bs
  else if d = sRead then doRd s off n
  else if d = sSize then (s, ⟨0, sizeF s.ys (lastK s), []⟩, true)
  else if d = sTrunc then doTr s n
  else if d = sPunch then doPu s off n
  else if d = sBegin then doDe s .begin
  else if d = sEnd then doDe s .fin
  else if d = sRoll then doDe s .roll
  else if d = sSync then (s, w0, true)
  else ({ s with ls := true }, w0, false)
/- kinds, and levels -/
theorem topG_congr {l l' : List Ly} (h : l.map (·.kd) = l'.map (·.kd)) : ∀ k, topG l k = topG l' k
  | 0 => rfl
  | k + 1 => by
    have ih := topG_congr h k
    have e : (l[k + 1]?).map (·.kd) = (l'[k + 1]?).map (·.kd) := by rw [← List.getElem?_map, ← List.getElem?_map, h]
    unfold topG
    cases h1 : l[k + 1]? with
    | none =>
      rw [h1] at e
      cases h2 : l'[k + 1]? with
      | none => exact ih
      | some y => rw [h2] at e; cases e
    | some x =>
      rw [h1] at e
      cases h2 : l'[k + 1]? with
      | none => rw [h2] at e; cases e
      | some y =>
        rw [h2] at e
        simp only [Option.map_some, Option.some.injEq] at e
        dsimp only
        rw [e, ih]
theorem topF_congr {l l' : List Ly} (h : l.map (·.kd) = l'.map (·.kd)) : topF l = topF l' := by
  have : l.length = l'.length := by have := congrArg List.length h; simpa using this
  unfold topF
  rw [this, topG_congr h]
theorem topG_le (l : List Ly) : ∀ k, topG l k ≤ k
  | 0 => Nat.le_refl _
  | k + 1 => by
    have := topG_le l k
    unfold topG
    split
    · split <;> omega
    · omega
theorem topF_lt {l : List Ly} (h : 0 < l.length) : topF l < l.length := by
  have := topG_le l (l.length - 1)
  unfold topF
  omega
theorem topG_isR {l : List Ly} : ∀ k, 0 < topG l k → ∀ x, l[topG l k]? = some x → x.kd = .roll
  | 0 => fun h => absurd h (Nat.lt_irrefl 0)
  | k + 1 => by
    unfold topG
    cases h1 : l[k + 1]? with
    | none => exact topG_isR k
    | some y =>
      dsimp only
      split
      · rename_i hR
        intro _ x hx
        rw [h1] at hx
        cases hx
        cases hk : y.kd <;> rw [hk] at hR <;> first | rfl | cases hR
      · exact topG_isR k
theorem topG_above {l : List Ly} : ∀ k i x, topG l k < i → i ≤ k → l[i]? = some x → x.kd.isR = false
  | 0, i, x, h1, h2, _ => by omega
  | k + 1, i, x, h1, h2, hx => by
    unfold topG at h1
    cases h : l[k + 1]? with
    | none =>
      rw [h] at h1
      by_cases hi : i = k + 1
      · subst hi
        rw [h] at hx
        cases hx
      · exact topG_above k i x h1 (by omega) hx
    | some y =>
      rw [h] at h1
      dsimp only at h1
      split at h1
      · omega
      · rename_i hk
        by_cases hi : i = k + 1
        · subst hi
          rw [h] at hx
          cases hx
          simpa using hk
        · exact topG_above k i x h1 (by omega) hx
theorem topF_isR {l : List Ly} (h : 0 < topF l) {x : Ly} (hx : l[topF l]? = some x) : x.kd = .roll := topG_isR _ h x hx
theorem topF_above {l : List Ly} {i : Nat} {x : Ly} (h : topF l < i) (hx : l[i]? = some x) : x.kd.isR = false := topG_above _ i x h (by have := (List.getElem?_eq_some_iff.1 hx).1; omega) hx
theorem set_map {α β : Type} (f : α → β) {l : List α} {k : Nat} {x y : α} (hx : l[k]? = some x) (h : f y = f x) : (l.set k y).map f = l.map f := by
  rw [List.map_set, h]
  apply List.ext_getElem?
  intro i
  rw [List.getElem?_set]
  split
  · rename_i e
    subst e
    split
    · rw [List.getElem?_map, hx]; rfl
    · rename_i h2
      rw [List.getElem?_eq_none (by simpa using h2)]
  · rfl
theorem chF_kd (l : List Ly) (wr : Bool) (b : List Int) : ∀ k o, (chF l k wr o b).1.map (fun x => (x.kd, x.off, x.levels)) = l.map (fun x => (x.kd, x.off, x.levels)) := by
  intro k
  induction k with
  | zero =>
    intro o
    unfold chF
    cases h : l[0]? with
    | none => rfl
    | some x => exact set_map _ h rfl
  | succ k ih =>
    intro o
    unfold chF
    cases h : l[k + 1]? with
    | none => rfl
    | some x =>
      dsimp only
      cases x.kd with
      | base => exact ih _
      | inner => exact ih _
      | roll =>
        dsimp only
        split
        · rfl
        · exact set_map _ h rfl
theorem map_of {α β γ : Type} {f : α → β} (g : β → γ) {l l' : List α} (h : l.map f = l'.map f) : l.map (fun x => g (f x)) = l'.map (fun x => g (f x)) := by
  have := congrArg (List.map g) h
  rwa [List.map_map, List.map_map] at this
theorem becF_kd (l : List Ly) (k : Nat) (p : List Int) : (becF l k p).map (fun x => (x.kd, x.off, x.levels)) = l.map (fun x => (x.kd, x.off, x.levels)) := by
  unfold becF
  cases h : l[0]? with
  | none => rfl
  | some x => exact set_map _ h rfl
theorem begY_kd (s : SS) (j : Nat) (x : Ly) : (begY s j x).kd = x.kd ∧ (begY s j x).off = x.off := by
  unfold begY
  split <;> exact ⟨rfl, rfl⟩
theorem deedAt_kd (s : SS) (j : Nat) (x : Ly) (hx : s.ys[j + 1]? = some x) (d : DK) : (deedAt s j x d).1.ys.map (fun x => (x.kd, x.off)) = s.ys.map (fun x => (x.kd, x.off)) := by
  have hend : (endY s j x).map (fun x => (x.kd, x.off)) = s.ys.map (fun x => (x.kd, x.off)) := set_map _ hx rfl
  have hbec : ∀ p, (becF (endY s j x) j p).map (fun x => (x.kd, x.off)) = s.ys.map (fun x => (x.kd, x.off)) := fun p => by
    rw [← hend]
    exact map_of (f := fun x : Ly => (x.kd, x.off, x.levels)) (fun p => (p.1, p.2.1)) (becF_kd _ _ _)
  cases d with
  | begin =>
    refine set_map (fun x : Ly => (x.kd, x.off)) hx ?_
    have := begY_kd s j x
    dsimp only
    rw [this.1, this.2]
  | roll =>
    rw [deedAt_roll]
    split
    · rfl
    · exact set_map (fun x : Ly => (x.kd, x.off)) hx rfl
  | fin =>
    rw [deedAt_fin]
    split
    · rfl
    · dsimp only
      unfold endF
      split
      · exact hend
      · split
        · exact hend
        · split
          · exact hbec _
          · exact hbec _
end Go.Proofs.YtfebpbflpdppiaaGreatDoor
namespace Go.Proofs.YtfebpbflpdppiaaGreatDoor
open Go Go.Sl
set_option maxRecDepth 100000
section
variable {P : Program} {σ : Env} {ty : TypeId} {pos : String} {aft : Array Edge} {gd : Option (Nat × Bool)} {x y x' : Operand} {t e : TypeId}
theorem r_slLHN {od : Option Tmp} {size bytes len cap : Nat} {z : Value} {a : Option Addr} {k j : IntKind} {lo hi : Nat} [h1 : TyU P t (.slice e)] [h2 : TyI P e size bytes z] (hx : opd σ x = some (.slice a len cap)) (hy : opd σ y = some (.int k (lo : Nat))) (hy' : opd σ x' = some (.int j (hi : Nat)))
    (hlo : lo ≤ hi) (hhi : hi ≤ cap) : RunS P ⟨od, .slice t x (some y) (some x') none, ty, pos, aft, gd⟩ σ (.slice (if cap = lo then a else a.map (·.add (lo * size))) (hi - lo) (cap - lo)) := by
  have h := r_slLH (P := P) (od := od) (t := t) (ty := ty) (pos := pos) (aft := aft) (gd := gd) hx hy hy' (by omega) (by omega)
  rwa [Int.toNat_natCast, Int.toNat_natCast] at h
end
/-- a stack, and what it holds -/
structure SV (xs : List LV) (es : List LE) (Z : HP) (la : Option Addr) (lc : Nat) (s : SS) : Prop where
  ys : xs.map (·.y) = s.ys
  ok : ∀ x ∈ xs, LVok Z x
  le : ∀ e ∈ es, LEok Z e
  top : ∀ x, xs[topF s.ys]? = some x → x.y.levels = es.map LE.lv ∧ x.la = la ∧ x.lc = lc
/-- what a step asks for -/
structure Sin (s : SS) : Prop where
  l0 : 0 < s.ys.length
  l1 : s.ys.length ≤ 7
  bs : ∀ (k : Nat) (y : Ly), s.ys[k + 1]? = some y → y.kd ≠ .base
  os : ∀ k, k < s.ys.length → oSum s.ys k ≤ 1000000
  pl : s.pts.length ≤ 1000
  ll : ∀ y ∈ s.ys, y.levels.length ≤ 500
def wCells (w : Wnt) (wa : Option Addr) (wc : Nat) : List Value := [.int .i64 w.e, .int .i64 w.n, .slice wa w.b.length wc]
/-- what stands behind a step -/
def DoR (Z I : HP) (sb lb lcap : Nat) (rest : List Value) (n : Nat) (r : SS × Wnt × Bool) (v : Value) (B : List HP) : Prop :=
  ∃ (xs' : List LV) (es' : List LE) (Z' : HP) (la' : Option Addr) (lc' : Nat) (pa' : Option Addr) (pc' : Nat) (wa : Option Addr) (wc : Nat),
    v = .tuple #[.agg (wCells r.2.1 wa wc).toArray, .bool r.2.2] ∧ Src [Z'] 1 (.slice wa r.2.1.b.length wc) r.2.1.b.length (i16s r.2.1.b) ∧ xs'.length = n ∧ SV xs' es' Z' la' lc' r.1 ∧ Ent [Z'] [Z] ∧
    B = SH sb lb lcap rest xs' es' Z' la' lc' pa' pc' r.1.pts r.1.ls r.1.vg r.1.ms ++ [I]
attribute [local irreducible] wpList Code.wp Exit.then Exit.inBlock bodyPost RunS RunV G St Ct Sat Ent At Rd GQ QL wpAny wpOp wpQuiet slP Sl.ex sep
section
variable {Z I : HP} {sb lb lcap pc lc : Nat} {pa la : Option Addr} {rest : List Value} {xs : List LV} {es : List LE} {s : SS}
theorem do_ret {n0 : Nat} {σ : Env} {m : Amb} {F : List HP} {wb N : Nat} {w : Wnt} {Z0 : HP} {wa : Option Addr} {wc : Nat} {t : Bool} {r : SS × Wnt × Bool} (h10 : lk σ 10 = some (.pointer (some ⟨wb, 0, none⟩))) (h11 : lk σ 11 = some (.bool t)) (hr : r = (s, w, t)) {lsv : Bool} (hlv : s.ls = lsv) (hsr : Src [Z] 1 (.slice wa w.b.length wc) w.b.length (i16s w.b)) (hn : xs.length = N) (hv : SV xs es Z la lc s) (he : Ent [Z] [Z0]) :
    G n0 [] σ m (blk wb (cl (wCells w wa wc) 70) :: (SH sb lb lcap rest xs es Z la lc pa pc s.pts lsv s.vg s.ms ++ [I] ++ F)) (bodyPost Tryz.prog Tryz.f29 (fin (DoR Z0 I sb lb lcap rest N r) nev m F) .ret) := by
  subst hr hn hlv
  exact e_retAT (vs := wCells w wa wc) _ rfl h10 rfl rfl (rdn_all 0 rfl) h11 ⟨xs, es, Z, la, lc, pa, pc, wa, wc, rfl, hsr, rfl, hv, he, rfl⟩ Ent.drop
set_option maxHeartbeats 4000000 in
/-- where all is lost -/
theorem doLost_c (hv : SV xs es Z la lc s) (hs : Sin s) (d : ByteArray) (off n : Int) (ho : -1099511627776 ≤ off ∧ off ≤ 65536) (hn : -1099511627776 ≤ n ∧ n ≤ 65536) (da : Option Addr) (dn dc : Nat) (hl : s.ls = true ∨ off < -262144 ∨ n < -262144 ∨ shortF s.ys = true) :
    Ct Tryz.prog 29 #[.pointer (some ⟨sb, 0, none⟩), .string d, .int .i64 off, .int .i64 n, .slice da dn dc] (SH sb lb lcap rest xs es Z la lc pa pc s.pts s.ls s.vg s.ms ++ [I])
      (DoR Z I sb lb lcap rest xs.length ({ s with ls := true }, w0, false)) nev := by
  have hxl : xs.length = s.ys.length := by rw [← hv.ys, List.length_map]
  have hB : StB xs := fun k x hx => hs.bs k x.y (by rw [← hv.ys, List.getElem?_map, hx]; rfl)
  have hsc := short_c (sb := sb) (lb := lb) (lcap := lcap) (rest := rest) (p1 := .slice pa s.pts.length pc) (p2 := .bool false) (p3 := .bool s.vg) (p4 := .bool s.ms) (xs := xs) (by have := hs.l1; omega) (by have := hs.l0; omega) hv.ok hB
  rw [hv.ys] at hsc
  have hv2 : SV xs es Z la lc { s with ls := true } := ⟨hv.ys, hv.ok, hv.le, hv.top⟩
  unfold SH
  refine Ct.of Tryz.func29 rfl Tryz.ntmps29 rfl fun m F => ?_
  cases hls : s.ls with
  | true =>
    repeat (first | refine wZ ?_ | intro b)
    exact do_ret (w := w0) (wa := none) (wc := 0) (s := { s with ls := true }) rfl rfl rfl rfl Src.nil rfl hv2 (Ent.refl _)
  | false =>
    repeat (first | refine wZ ?_ | intro b)
    rw [decide_eq_false (by omega : ¬ 262144 < off)]
    repeat (first | refine wZ ?_ | intro b)
    rw [decide_eq_false (by omega : ¬ 262144 < n)]
    repeat (first | refine wZ ?_ | intro b)
    by_cases ho2 : off < -262144
    · rw [decide_eq_true ho2]
      repeat (first | refine wZ ?_ | intro b)
      exact do_ret (w := w0) (wa := none) (wc := 0) (s := { s with ls := true }) rfl rfl rfl rfl Src.nil rfl hv2 (Ent.refl _)
    rw [decide_eq_false ho2]
    repeat (first | refine wZ ?_ | intro b)
    by_cases hn2 : n < -262144
    · rw [decide_eq_true hn2]
      repeat (first | refine wZ ?_ | intro b)
      exact do_ret (w := w0) (wa := none) (wc := 0) (s := { s with ls := true }) rfl rfl rfl rfl Src.nil rfl hv2 (Ent.refl _)
    rw [decide_eq_false hn2]
    repeat (first | refine wZ ?_ | intro b)
    have hsh : shortF s.ys = true := by
      rcases hl with h | h | h | h
      · rw [hls] at h; cases h
      · exact absurd h ho2
      · exact absurd h hn2
      · exact h
    rw [hsh] at hsc
    refine l_yes rfl rfl rfl (s_call rfl rfl hsc [1, 1] rfl ?_ (fun _ _ h => h.elim))
    rintro _ _ ⟨rfl, rfl⟩
    repeat (first | refine wZ ?_ | intro b)
    exact do_ret (w := w0) (wa := none) (wc := 0) (s := { s with ls := true }) rfl rfl rfl rfl Src.nil rfl hv2 (Ent.refl _)
end
end Go.Proofs.YtfebpbflpdppiaaGreatDoor
namespace Go.Proofs.YtfebpbflpdppiaaGreatDoor
open Go Go.Sl
set_option maxRecDepth 100000
attribute [local irreducible] wpList Code.wp Exit.then Exit.inBlock bodyPost RunS RunV G St Ct Sat Ent At Rd GQ QL wpAny wpOp wpQuiet slP Sl.ex sep
section
variable {Z I : HP} {sb lb lcap pc lc : Nat} {pa la : Option Addr} {rest : List Value} {xs : List LV} {es : List LE} {s : SS}
set_option maxHeartbeats 4000000 in
theorem doSync_c (hv : SV xs es Z la lc s) (hs : Sin s) (off n : Int) (ho : -1099511627776 ≤ off ∧ off ≤ 65536) (hn : -1099511627776 ≤ n ∧ n ≤ 65536) (bs : List UInt8) (da : Option Addr) (dc : Nat) (_hd : Src [I] 1 (.slice da bs.length dc) bs.length (u8s bs)) (_hbl : bs.length ≤ 131072) (hls : s.ls = false) (ho2 : ¬ off < -262144) (hn2 : ¬ n < -262144) (hsh : shortF s.ys = false) :
    Ct Tryz.prog 29 #[.pointer (some ⟨sb, 0, none⟩), .string sSync, .int .i64 off, .int .i64 n, .slice da bs.length dc] (SH sb lb lcap rest xs es Z la lc pa pc s.pts s.ls s.vg s.ms ++ [I])
      (DoR Z I sb lb lcap rest xs.length (s, w0, true)) nev := by
  have hxl : xs.length = s.ys.length := by rw [← hv.ys, List.length_map]
  have hl0 : 0 < xs.length := by have := hs.l0; omega
  have hl1 : xs.length ≤ 1000 := by have := hs.l1; omega
  have hB : StB xs := fun k x hx => hs.bs k x.y (by rw [← hv.ys, List.getElem?_map, hx]; rfl)
  have hK : lastK s = xs.length - 1 := by unfold lastK; rw [hxl]
  have hsc := short_c (sb := sb) (lb := lb) (lcap := lcap) (rest := rest) (p1 := .slice pa s.pts.length pc) (p2 := .bool false) (p3 := .bool s.vg) (p4 := .bool s.ms) (xs := xs) hl1 hl0 hv.ok hB
  have hsz := size_c (sb := sb) (lb := lb) (lcap := lcap) (rest := rest) (p1 := .slice pa s.pts.length pc) (p2 := .bool false) (p3 := .bool s.vg) (p4 := .bool s.ms) (xs := xs) hl1 hv.ok hB (xs.length - 1) (by omega)
  have hsb := sizeF_bd hv.ok (lastK s)
  rw [hv.ys, hsh] at hsc
  rw [hv.ys, ← hK] at hsz
  rw [hv.ys] at hsb
  have hK9 : lastK s ≤ 999 := by omega
  unfold SH
  rw [hls]
  refine Ct.of Tryz.func29 rfl Tryz.ntmps29 rfl fun m F => ?_
  repeat (first | refine wZ ?_ | intro b)
  revert b; intro wb
  rw [decide_eq_false (by omega : ¬ 262144 < off)]
  repeat (first | refine wZ ?_ | intro b)
  rw [decide_eq_false (by omega : ¬ 262144 < n)]
  repeat (first | refine wZ ?_ | intro b)
  rw [decide_eq_false ho2]
  repeat (first | refine wZ ?_ | intro b)
  rw [decide_eq_false hn2]
  repeat (first | refine wZ ?_ | intro b)
  refine l_yes rfl rfl rfl (s_call rfl rfl hsc [1, 1] rfl ?_ (fun _ _ h => h.elim))
  rintro _ _ ⟨rfl, rfl⟩
  repeat (first | refine wZ ?_ | intro b)
  rw [← hK]
  refine l_plain rfl (s_call rfl rfl hsz [0, 0] rfl ?_ (fun _ _ h => h.elim))
  rintro _ _ ⟨rfl, rfl⟩
  refine G.ent (L' := blk wb (cl (wCells w0 none 0) 70) :: blk sb (cl [.slice (some ⟨lb, 0, none⟩) xs.length lcap, .slice pa s.pts.length pc, .bool false, .bool s.vg, .bool s.ms] 75) :: blk lb (cl (xs.flatMap lvCells ++ rest) 80) :: Z :: slG (.slice la es.length lc) 139 2 (es.flatMap leCells) :: slP (.slice pa s.pts.length pc) 2 1 (ints s.pts) :: I :: F) (arr_ent 0 [2, 0, 0] _) ?_
  repeat (first | refine wZ ?_ | intro b)
  exact do_ret (w := w0) (wa := none) (wc := 0) (s := s) rfl rfl rfl hls Src.nil rfl hv (Ent.refl _)
set_option maxHeartbeats 4000000 in
theorem doElse_c (hv : SV xs es Z la lc s) (hs : Sin s) (off n : Int) (ho : -1099511627776 ≤ off ∧ off ≤ 65536) (hn : -1099511627776 ≤ n ∧ n ≤ 65536) (bs : List UInt8) (da : Option Addr) (dc : Nat) (_hd : Src [I] 1 (.slice da bs.length dc) bs.length (u8s bs)) (_hbl : bs.length ≤ 131072) (hls : s.ls = false) (ho2 : ¬ off < -262144) (hn2 : ¬ n < -262144) (hsh : shortF s.ys = false) (d : ByteArray) (h0 : d ≠ sWrite) (h1 : d ≠ sRead) (h2 : d ≠ sSize) (h3 : d ≠ sTrunc) (h4 : d ≠ sPunch) (h5 : d ≠ sBegin) (h6 : d ≠ sEnd) (h7 : d ≠ sRoll) (h8 : d ≠ sSync) :
    Ct Tryz.prog 29 #[.pointer (some ⟨sb, 0, none⟩), .string d, .int .i64 off, .int .i64 n, .slice da bs.length dc] (SH sb lb lcap rest xs es Z la lc pa pc s.pts s.ls s.vg s.ms ++ [I])
      (DoR Z I sb lb lcap rest xs.length ({ s with ls := true }, w0, false)) nev := by
  have hxl : xs.length = s.ys.length := by rw [← hv.ys, List.length_map]
  have hl0 : 0 < xs.length := by have := hs.l0; omega
  have hl1 : xs.length ≤ 1000 := by have := hs.l1; omega
  have hB : StB xs := fun k x hx => hs.bs k x.y (by rw [← hv.ys, List.getElem?_map, hx]; rfl)
  have hK : lastK s = xs.length - 1 := by unfold lastK; rw [hxl]
  have hsc := short_c (sb := sb) (lb := lb) (lcap := lcap) (rest := rest) (p1 := .slice pa s.pts.length pc) (p2 := .bool false) (p3 := .bool s.vg) (p4 := .bool s.ms) (xs := xs) hl1 hl0 hv.ok hB
  have hsz := size_c (sb := sb) (lb := lb) (lcap := lcap) (rest := rest) (p1 := .slice pa s.pts.length pc) (p2 := .bool false) (p3 := .bool s.vg) (p4 := .bool s.ms) (xs := xs) hl1 hv.ok hB (xs.length - 1) (by omega)
  have hsb := sizeF_bd hv.ok (lastK s)
  rw [hv.ys, hsh] at hsc
  rw [hv.ys, ← hK] at hsz
  rw [hv.ys] at hsb
  have hK9 : lastK s ≤ 999 := by omega
  unfold SH
  rw [hls]
  refine Ct.of Tryz.func29 rfl Tryz.ntmps29 rfl fun m F => ?_
  repeat (first | refine wZ ?_ | intro b)
  revert b; intro wb
  rw [decide_eq_false (by omega : ¬ 262144 < off)]
  repeat (first | refine wZ ?_ | intro b)
  rw [decide_eq_false (by omega : ¬ 262144 < n)]
  repeat (first | refine wZ ?_ | intro b)
  rw [decide_eq_false ho2]
  repeat (first | refine wZ ?_ | intro b)
  rw [decide_eq_false hn2]
  repeat (first | refine wZ ?_ | intro b)
  refine l_yes rfl rfl rfl (s_call rfl rfl hsc [1, 1] rfl ?_ (fun _ _ h => h.elim))
  rintro _ _ ⟨rfl, rfl⟩
  repeat (first | refine wZ ?_ | intro b)
  rw [← hK]
  refine l_plain rfl (s_call rfl rfl hsz [0, 0] rfl ?_ (fun _ _ h => h.elim))
  rintro _ _ ⟨rfl, rfl⟩
  refine G.ent (L' := blk wb (cl (wCells w0 none 0) 70) :: blk sb (cl [.slice (some ⟨lb, 0, none⟩) xs.length lcap, .slice pa s.pts.length pc, .bool false, .bool s.vg, .bool s.ms] 75) :: blk lb (cl (xs.flatMap lvCells ++ rest) 80) :: Z :: slG (.slice la es.length lc) 139 2 (es.flatMap leCells) :: slP (.slice pa s.pts.length pc) 2 1 (ints s.pts) :: I :: F) (arr_ent 0 [2, 0, 0] _) ?_
  have hv2 : SV xs es Z la lc { s with ls := true } := ⟨hv.ys, hv.ok, hv.le, hv.top⟩
  repeat (first | refine wZ ?_ | intro b)
  rw [show (d.data.toList == [119, 114, 105, 116, 101]) = false from ne_lit h0]
  repeat (first | refine wZ ?_ | intro b)
  rw [show (d.data.toList == [114, 101, 97, 100]) = false from ne_lit h1]
  repeat (first | refine wZ ?_ | intro b)
  rw [show (d.data.toList == [115, 105, 122, 101]) = false from ne_lit h2]
  repeat (first | refine wZ ?_ | intro b)
  rw [show (d.data.toList == [116, 114, 117, 110, 99, 97, 116, 101]) = false from ne_lit h3]
  repeat (first | refine wZ ?_ | intro b)
  rw [show (d.data.toList == [112, 117, 110, 99, 104]) = false from ne_lit h4]
  repeat (first | refine wZ ?_ | intro b)
  rw [show (d.data.toList == [98, 101, 103, 105, 110]) = false from ne_lit h5]
  repeat (first | refine wZ ?_ | intro b)
  rw [show (d.data.toList == [101, 110, 100]) = false from ne_lit h6]
  repeat (first | refine wZ ?_ | intro b)
  rw [show (d.data.toList == [114, 111, 108, 108, 98, 97, 99, 107]) = false from ne_lit h7]
  repeat (first | refine wZ ?_ | intro b)
  rw [show (d.data.toList == [115, 121, 110, 99]) = false from ne_lit h8]
  repeat (first | refine wZ ?_ | intro b)
  exact do_ret (w := w0) (wa := none) (wc := 0) (s := { s with ls := true }) rfl rfl rfl rfl Src.nil rfl hv2 (Ent.refl _)
set_option maxHeartbeats 4000000 in
theorem doSize_c (hv : SV xs es Z la lc s) (hs : Sin s) (off n : Int) (ho : -1099511627776 ≤ off ∧ off ≤ 65536) (hn : -1099511627776 ≤ n ∧ n ≤ 65536) (bs : List UInt8) (da : Option Addr) (dc : Nat) (_hd : Src [I] 1 (.slice da bs.length dc) bs.length (u8s bs)) (_hbl : bs.length ≤ 131072) (hls : s.ls = false) (ho2 : ¬ off < -262144) (hn2 : ¬ n < -262144) (hsh : shortF s.ys = false) :
    Ct Tryz.prog 29 #[.pointer (some ⟨sb, 0, none⟩), .string sSize, .int .i64 off, .int .i64 n, .slice da bs.length dc] (SH sb lb lcap rest xs es Z la lc pa pc s.pts s.ls s.vg s.ms ++ [I])
      (DoR Z I sb lb lcap rest xs.length (s, ⟨0, sizeF s.ys (lastK s), []⟩, true)) nev := by
  have hxl : xs.length = s.ys.length := by rw [← hv.ys, List.length_map]
  have hl0 : 0 < xs.length := by have := hs.l0; omega
  have hl1 : xs.length ≤ 1000 := by have := hs.l1; omega
  have hB : StB xs := fun k x hx => hs.bs k x.y (by rw [← hv.ys, List.getElem?_map, hx]; rfl)
  have hK : lastK s = xs.length - 1 := by unfold lastK; rw [hxl]
  have hsc := short_c (sb := sb) (lb := lb) (lcap := lcap) (rest := rest) (p1 := .slice pa s.pts.length pc) (p2 := .bool false) (p3 := .bool s.vg) (p4 := .bool s.ms) (xs := xs) hl1 hl0 hv.ok hB
  have hsz := size_c (sb := sb) (lb := lb) (lcap := lcap) (rest := rest) (p1 := .slice pa s.pts.length pc) (p2 := .bool false) (p3 := .bool s.vg) (p4 := .bool s.ms) (xs := xs) hl1 hv.ok hB (xs.length - 1) (by omega)
  have hsb := sizeF_bd hv.ok (lastK s)
  rw [hv.ys, hsh] at hsc
  rw [hv.ys, ← hK] at hsz
  rw [hv.ys] at hsb
  have hK9 : lastK s ≤ 999 := by omega
  unfold SH
  rw [hls]
  refine Ct.of Tryz.func29 rfl Tryz.ntmps29 rfl fun m F => ?_
  repeat (first | refine wZ ?_ | intro b)
  revert b; intro wb
  rw [decide_eq_false (by omega : ¬ 262144 < off)]
  repeat (first | refine wZ ?_ | intro b)
  rw [decide_eq_false (by omega : ¬ 262144 < n)]
  repeat (first | refine wZ ?_ | intro b)
  rw [decide_eq_false ho2]
  repeat (first | refine wZ ?_ | intro b)
  rw [decide_eq_false hn2]
  repeat (first | refine wZ ?_ | intro b)
  refine l_yes rfl rfl rfl (s_call rfl rfl hsc [1, 1] rfl ?_ (fun _ _ h => h.elim))
  rintro _ _ ⟨rfl, rfl⟩
  repeat (first | refine wZ ?_ | intro b)
  rw [← hK]
  refine l_plain rfl (s_call rfl rfl hsz [0, 0] rfl ?_ (fun _ _ h => h.elim))
  rintro _ _ ⟨rfl, rfl⟩
  refine G.ent (L' := blk wb (cl (wCells w0 none 0) 70) :: blk sb (cl [.slice (some ⟨lb, 0, none⟩) xs.length lcap, .slice pa s.pts.length pc, .bool false, .bool s.vg, .bool s.ms] 75) :: blk lb (cl (xs.flatMap lvCells ++ rest) 80) :: Z :: slG (.slice la es.length lc) 139 2 (es.flatMap leCells) :: slP (.slice pa s.pts.length pc) 2 1 (ints s.pts) :: I :: F) (arr_ent 0 [2, 0, 0] _) ?_
  repeat (first | refine wZ ?_ | intro b)
  exact do_ret (w := ⟨0, sizeF s.ys (lastK s), []⟩) (wa := none) (wc := 0) (s := s) rfl rfl rfl hls Src.nil rfl hv (Ent.refl _)
end
end Go.Proofs.YtfebpbflpdppiaaGreatDoor
namespace Go.Proofs.YtfebpbflpdppiaaGreatDoor
open Go Go.Sl
set_option maxRecDepth 100000
attribute [local irreducible] wpList Code.wp Exit.then Exit.inBlock bodyPost RunS RunV G St Ct Sat Ent At Rd GQ QL wpAny wpOp wpQuiet slP Sl.ex sep
section
variable {Z I : HP} {sb lb lcap pc lc : Nat} {pa la : Option Addr} {rest : List Value} {xs : List LV} {es : List LE} {s : SS}
set_option maxHeartbeats 8000000 in
theorem doRead_c (hv : SV xs es Z la lc s) (hs : Sin s) (off n : Int) (ho : -1099511627776 ≤ off ∧ off ≤ 65536) (hn : -1099511627776 ≤ n ∧ n ≤ 65536) (bs : List UInt8) (da : Option Addr) (dc : Nat) (_hd : Src [I] 1 (.slice da bs.length dc) bs.length (u8s bs)) (_hbl : bs.length ≤ 131072) (hls : s.ls = false) (ho2 : ¬ off < -262144) (hn2 : ¬ n < -262144) (hsh : shortF s.ys = false) :
    Ct Tryz.prog 29 #[.pointer (some ⟨sb, 0, none⟩), .string sRead, .int .i64 off, .int .i64 n, .slice da bs.length dc] (SH sb lb lcap rest xs es Z la lc pa pc s.pts s.ls s.vg s.ms ++ [I])
      (DoR Z I sb lb lcap rest xs.length (doRd s off n)) nev := by
  have hxl : xs.length = s.ys.length := by rw [← hv.ys, List.length_map]
  have hl0 : 0 < xs.length := by have := hs.l0; omega
  have hl1 : xs.length ≤ 1000 := by have := hs.l1; omega
  have hB : StB xs := fun k x hx => hs.bs k x.y (by rw [← hv.ys, List.getElem?_map, hx]; rfl)
  have hK : lastK s = xs.length - 1 := by unfold lastK; rw [hxl]
  have hsc := short_c (sb := sb) (lb := lb) (lcap := lcap) (rest := rest) (p1 := .slice pa s.pts.length pc) (p2 := .bool false) (p3 := .bool s.vg) (p4 := .bool s.ms) (xs := xs) hl1 hl0 hv.ok hB
  have hsz := size_c (sb := sb) (lb := lb) (lcap := lcap) (rest := rest) (p1 := .slice pa s.pts.length pc) (p2 := .bool false) (p3 := .bool s.vg) (p4 := .bool s.ms) (xs := xs) hl1 hv.ok hB (xs.length - 1) (by omega)
  have hsb := sizeF_bd hv.ok (lastK s)
  rw [hv.ys, hsh] at hsc
  rw [hv.ys, ← hK] at hsz
  rw [hv.ys] at hsb
  have hK9 : lastK s ≤ 999 := by omega
  unfold SH
  rw [hls]
  refine Ct.of Tryz.func29 rfl Tryz.ntmps29 rfl fun m F => ?_
  repeat (first | refine wZ ?_ | intro b)
  revert b; intro wb
  rw [decide_eq_false (by omega : ¬ 262144 < off)]
  repeat (first | refine wZ ?_ | intro b)
  rw [decide_eq_false (by omega : ¬ 262144 < n)]
  repeat (first | refine wZ ?_ | intro b)
  rw [decide_eq_false ho2]
  repeat (first | refine wZ ?_ | intro b)
  rw [decide_eq_false hn2]
  repeat (first | refine wZ ?_ | intro b)
  refine l_yes rfl rfl rfl (s_call rfl rfl hsc [1, 1] rfl ?_ (fun _ _ h => h.elim))
  rintro _ _ ⟨rfl, rfl⟩
  repeat (first | refine wZ ?_ | intro b)
  rw [← hK]
  refine l_plain rfl (s_call rfl rfl hsz [0, 0] rfl ?_ (fun _ _ h => h.elim))
  rintro _ _ ⟨rfl, rfl⟩
  refine G.ent (L' := blk wb (cl (wCells w0 none 0) 70) :: blk sb (cl [.slice (some ⟨lb, 0, none⟩) xs.length lcap, .slice pa s.pts.length pc, .bool false, .bool s.vg, .bool s.ms] 75) :: blk lb (cl (xs.flatMap lvCells ++ rest) 80) :: Z :: slG (.slice la es.length lc) 139 2 (es.flatMap leCells) :: slP (.slice pa s.pts.length pc) 2 1 (ints s.pts) :: I :: F) (arr_ent 0 [2, 0, 0] _) ?_
  have hv2 : SV xs es Z la lc { s with ls := true } := ⟨hv.ys, hv.ok, hv.le, hv.top⟩
  repeat (first | refine wZ ?_ | intro b)
  unfold doRd
  by_cases hn1 : n < 1
  · rw [decide_eq_true hn1, if_pos hn1]
    have hv3 : SV xs es Z la lc { s with ls := decide (n < 0) } := ⟨hv.ys, hv.ok, hv.le, hv.top⟩
    repeat (first | refine wZ ?_ | intro b)
    exact do_ret (w := w0) (wa := none) (wc := 0) (s := { s with ls := decide (n < 0) }) rfl rfl rfl rfl Src.nil rfl hv3 (Ent.refl _)
  rw [decide_eq_false hn1, if_neg hn1]
  repeat (first | refine wZ ?_ | intro b)
  by_cases ho1 : off < 0
  · rw [decide_eq_true ho1, if_pos ho1]
    repeat (first | refine wZ ?_ | intro b)
    refine l_plain rfl ?_
    apply s_val rfl rfl
    · exact RunS.v (r_build (cells := (wCells ⟨-1, 0, []⟩ none 0).toArray) rfl (by kernel_rfl))
    repeat (first | refine wZ ?_ | intro b)
    exact do_ret (w := ⟨-1, 0, []⟩) (wa := none) (wc := 0) (s := s) rfl rfl rfl hls Src.nil rfl hv (Ent.refl _)
  rw [decide_eq_false ho1, if_neg ho1]
  obtain ⟨o, rfl⟩ : ∃ o : Nat, off = o := ⟨off.toNat, by omega⟩
  obtain ⟨nn, rfl⟩ : ∃ nn : Nat, n = nn := ⟨n.toNat, by omega⟩
  have hvw := view_c (sb := sb) (lb := lb) (lcap := lcap) (rest := rest) (p1 := .slice pa s.pts.length pc) (p2 := .bool false) (p3 := .bool s.vg) (p4 := .bool s.ms) (xs := xs) hl1 hv.ok hB (lastK s) (by omega)
  have hvb := viewF_le hv.ok (lastK s)
  have htp := top_c (sb := sb) (lb := lb) (lcap := lcap) (rest := rest) (p1 := .slice pa s.pts.length pc) (p2 := .bool false) (p3 := .bool s.vg) (p4 := .bool s.ms) (xs := xs) hl1 hl0
  rw [hv.ys] at hvw hvb htp
  rw [show ((o : Int) + (nn : Int)).toNat = o + nn from by omega, Int.toNat_natCast]
  unfold rdE
  generalize viewF s.ys (lastK s) = p at hvw hvb ⊢
  repeat (first | refine wZ ?_ | intro b)
  refine l_plain rfl (s_call rfl rfl hvw [1, 1] rfl ?_ (fun _ _ h => h.elim))
  rintro _ _ ⟨⟨a, c, rfl, hp1, hp2⟩, rfl⟩
  repeat (first | refine wZ ?_ | intro b)
  rw [show min ((o : Nat) : Int) ((p.length : Nat) : Int) = ((min o p.length : Nat) : Int) from by omega, show min ((o + nn : Nat) : Int) ((p.length : Nat) : Int) = ((min (o + nn) p.length : Nat) : Int) from by omega]
  have hft : min o p.length ≤ min (o + nn) p.length := by omega
  have htl : min (o + nn) p.length ≤ p.length := by omega
  generalize min o p.length = fr at hft ⊢
  generalize min (o + nn) p.length = to at hft htl ⊢
  have hsl := Src.lo (Src.hi (hi := to) hp2 htl) (by omega) hft
  refine l_plain rfl ?_
  apply s_val (v := .slice (if c = fr then a else a.map (·.add (fr * 1))) (to - fr) (c - fr)) rfl rfl
  · exact RunS.v (r_slLHN rfl rfl rfl hft (by omega))
  generalize (if c = fr then a else a.map (·.add (fr * 1))) = A at hsl ⊢
  rw [Nat.mul_one, Nat.mul_one, i16s_take, i16s_drop] at hsl
  repeat (first | refine wZ ?_ | intro b)
  have hql : ((p.take to).drop fr).length = to - fr := by simp; omega
  generalize (p.take to).drop fr = q at hsl hql ⊢
  generalize c - fr = cA at hsl ⊢
  rw [← hql] at hsl ⊢
  have hE1 : ∃ e1 : Int, e1 = if ((q.length : Nat) : Int) < (nn : Int) then 1 else 0 := ⟨_, rfl⟩
  obtain ⟨e1, hE1⟩ := hE1
  rw [← hE1]
  refine c_mid (α := Unit) (fun _ => [(0, .pointer (some ⟨sb, 0, none⟩)), (10, .pointer (some ⟨wb, 0, none⟩)), (11, .bool false), (14, .slice a p.length c), (16, .int .i64 (to : Nat))])
    (fun _ => blk wb (cl (wCells ⟨e1, (q.length : Nat), q⟩ A cA) 70) :: blk sb (cl [.slice (some ⟨lb, 0, none⟩) xs.length lcap, .slice pa s.pts.length pc, .bool false, .bool s.vg, .bool s.ms] 75) :: blk lb (cl (xs.flatMap lvCells ++ rest) 80) :: Z :: slG (.slice la es.length lc) 139 2 (es.flatMap leCells) :: slP (.slice pa s.pts.length pc) 2 1 (ints s.pts) :: I :: F) (fun _ => True) ?_ ?_
  · by_cases hlt : ((q.length : Nat) : Int) < (nn : Int)
    · rw [decide_eq_true hlt]
      rw [if_pos hlt] at hE1
      subst hE1
      repeat (first | refine wZ ?_ | intro b)
      exact at_intro () trivial ⟨rfl, rfl, rfl, rfl, rfl, trivial⟩ (Ent.refl _)
    · rw [decide_eq_false hlt]
      rw [if_neg hlt] at hE1
      subst hE1
      repeat (first | refine wZ ?_ | intro b)
      exact at_intro () trivial ⟨rfl, rfl, rfl, rfl, rfl, trivial⟩ (Ent.refl _)
  intro _ _
  repeat (first | refine wZ ?_ | intro b)
  refine l_plain rfl (s_call rfl rfl htp [1, 1] rfl ?_ (fun _ _ h => h.elim))
  rintro _ _ ⟨rfl, rfl⟩
  have htl2 : topF s.ys < xs.length := by
    rw [hxl]
    exact topF_lt hs.l0
  have hin : inT s = match s.ys[topF s.ys]? with | some x => decide (0 < x.levels.length) | none => false := rfl
  generalize topF s.ys = t at htl2 hin ⊢
  obtain ⟨x, hx⟩ : ∃ x, xs[t]? = some x := ⟨xs[t], List.getElem?_eq_getElem htl2⟩
  rw [← hv.ys, List.getElem?_map, hx] at hin
  dsimp only [Option.map_some] at hin
  rw [hin]
  repeat (first | refine wZ ?_ | intro b)
  by_cases ht0 : 0 < t
  · rw [decide_eq_true (by omega : (0 : Int) < (t : Nat))]
    repeat (first | refine wZ ?_ | intro b)
    by_cases hto : to = p.length
    · rw [decide_eq_true (by omega : ((to : Nat) : Int) = (p.length : Nat))]
      repeat (first | refine wZ ?_ | intro b)
      refine l_yes rfl rfl rfl ?_
      apply s_val rfl rfl
      · exact RunS.v (r_index (i := t) rfl rfl rfl htl2)
      repeat (first | refine wZ ?_ | intro b)
      refine l_yes rfl rfl rfl ?_
      apply s_val (v := .slice x.la x.y.levels.length x.lc) rfl rfl
      · exact r_load rfl rfl (rd_blk 1 rfl (lc_get hx 5 (by decide)))
      repeat (first | refine wZ ?_ | intro b)
      by_cases hlv : 0 < x.y.levels.length
      · rw [decide_eq_true (by omega : (0 : Int) < (x.y.levels.length : Nat)), if_pos (by simp [ht0, hto, hlv])]
        repeat (first | refine wZ ?_ | intro b)
        exact do_ret (w := ⟨-2, (q.length : Nat), q⟩) (wa := A) (wc := cA) (s := s) rfl rfl rfl hls hsl rfl hv (Ent.refl _)
      · rw [decide_eq_false (by omega : ¬ (0 : Int) < (x.y.levels.length : Nat)), if_neg (by simp [hlv])]
        repeat (first | refine wZ ?_ | intro b)
        exact do_ret (w := ⟨e1, (q.length : Nat), q⟩) (wa := A) (wc := cA) (s := s) rfl rfl rfl hls hsl rfl hv (Ent.refl _)
    · rw [decide_eq_false (by omega : ¬ ((to : Nat) : Int) = (p.length : Nat)), if_neg (by simp [hto])]
      repeat (first | refine wZ ?_ | intro b)
      exact do_ret (w := ⟨e1, (q.length : Nat), q⟩) (wa := A) (wc := cA) (s := s) rfl rfl rfl hls hsl rfl hv (Ent.refl _)
  · rw [decide_eq_false (by omega : ¬ (0 : Int) < (t : Nat)), if_neg (by simp [ht0])]
    repeat (first | refine wZ ?_ | intro b)
    exact do_ret (w := ⟨e1, (q.length : Nat), q⟩) (wa := A) (wc := cA) (s := s) rfl rfl rfl hls hsl rfl hv (Ent.refl _)
end
end Go.Proofs.YtfebpbflpdppiaaGreatDoor
namespace Go.Proofs.YtfebpbflpdppiaaGreatDoor
open Go Go.Sl
set_option maxRecDepth 100000
theorem SV_of {xs xs' : List LV} {es : List LE} {Z Z' : HP} {la : Option Addr} {lc : Nat} {s s' : SS} (hv : SV xs es Z la lc s) (h1 : xs'.map (·.y) = s'.ys) (hk : s'.ys.map (fun x => (x.kd, x.off, x.levels)) = s.ys.map (fun x => (x.kd, x.off, x.levels))) (h2 : xs'.map LV.lac = xs.map LV.lac) (ok : ∀ x ∈ xs', LVok Z' x) (e : Ent [Z'] [Z]) : SV xs' es Z' la lc s' := by
  refine ⟨h1, ok, fun l hl => (hv.le l hl).ent e, fun x' hx' => ?_⟩
  have ht : topF s'.ys = topF s.ys := topF_congr (map_of (f := fun x : Ly => (x.kd, x.off, x.levels)) (fun p => p.1) hk)
  rw [ht] at hx'
  have hlt : topF s.ys < xs.length := by
    have a := congrArg List.length h2
    rw [List.length_map, List.length_map] at a
    have := (List.getElem?_eq_some_iff.1 hx').1
    omega
  obtain ⟨x, hx⟩ : ∃ x, xs[topF s.ys]? = some x := ⟨xs[topF s.ys], List.getElem?_eq_getElem hlt⟩
  have t := hv.top x hx
  have e1 : (xs'.map LV.lac)[topF s.ys]? = some x'.lac := by rw [List.getElem?_map, hx']; rfl
  rw [h2, List.getElem?_map, hx] at e1
  have e2 : (s'.ys.map (fun x => (x.kd, x.off, x.levels)))[topF s.ys]? = some (x'.y.kd, x'.y.off, x'.y.levels) := by rw [← h1, List.getElem?_map, List.getElem?_map, hx']; rfl
  have e3 : ∀ i : Nat, s.ys[i]? = (xs[i]?).map (fun x : LV => x.y) := fun i => by rw [← hv.ys, List.getElem?_map]
  rw [hk, List.getElem?_map, e3, hx] at e2
  unfold LV.lac at e1
  simp only [Option.map_some, Option.some.injEq, Prod.mk.injEq] at e1 e2
  exact ⟨e2.2.2.symm.trans t.1, e1.1.symm.trans t.2.1, e1.2.symm.trans t.2.2⟩
attribute [local irreducible] wpList Code.wp Exit.then Exit.inBlock bodyPost RunS RunV G St Ct Sat Ent At Rd GQ QL wpAny wpOp wpQuiet slP Sl.ex sep
section
variable {Z I : HP} {sb lb lcap pc lc : Nat} {pa la : Option Addr} {rest : List Value} {xs : List LV} {es : List LE} {s : SS}
set_option maxHeartbeats 8000000 in
theorem doTrunc_c (hv : SV xs es Z la lc s) (hs : Sin s) (off n : Int) (ho : -1099511627776 ≤ off ∧ off ≤ 65536) (hn : -1099511627776 ≤ n ∧ n ≤ 65536) (bs : List UInt8) (da : Option Addr) (dc : Nat) (_hd : Src [I] 1 (.slice da bs.length dc) bs.length (u8s bs)) (_hbl : bs.length ≤ 131072) (hls : s.ls = false) (ho2 : ¬ off < -262144) (hn2 : ¬ n < -262144) (hsh : shortF s.ys = false) (hres : ∀ y ∈ (doTr s n).1.ys, y.small) :
    Ct Tryz.prog 29 #[.pointer (some ⟨sb, 0, none⟩), .string sTrunc, .int .i64 off, .int .i64 n, .slice da bs.length dc] (SH sb lb lcap rest xs es Z la lc pa pc s.pts s.ls s.vg s.ms ++ [I])
      (DoR Z I sb lb lcap rest xs.length (doTr s n)) nev := by
  have hxl : xs.length = s.ys.length := by rw [← hv.ys, List.length_map]
  have hl0 : 0 < xs.length := by have := hs.l0; omega
  have hl1 : xs.length ≤ 1000 := by have := hs.l1; omega
  have hB : StB xs := fun k x hx => hs.bs k x.y (by rw [← hv.ys, List.getElem?_map, hx]; rfl)
  have hK : lastK s = xs.length - 1 := by unfold lastK; rw [hxl]
  have hsc := short_c (sb := sb) (lb := lb) (lcap := lcap) (rest := rest) (p1 := .slice pa s.pts.length pc) (p2 := .bool false) (p3 := .bool s.vg) (p4 := .bool s.ms) (xs := xs) hl1 hl0 hv.ok hB
  have hsz := size_c (sb := sb) (lb := lb) (lcap := lcap) (rest := rest) (p1 := .slice pa s.pts.length pc) (p2 := .bool false) (p3 := .bool s.vg) (p4 := .bool s.ms) (xs := xs) hl1 hv.ok hB (xs.length - 1) (by omega)
  have hsb := sizeF_bd hv.ok (lastK s)
  rw [hv.ys, hsh] at hsc
  rw [hv.ys, ← hK] at hsz
  rw [hv.ys] at hsb
  have hK9 : lastK s ≤ 999 := by omega
  unfold SH
  rw [hls]
  refine Ct.of Tryz.func29 rfl Tryz.ntmps29 rfl fun m F => ?_
  repeat (first | refine wZ ?_ | intro b)
  revert b; intro wb
  rw [decide_eq_false (by omega : ¬ 262144 < off)]
  repeat (first | refine wZ ?_ | intro b)
  rw [decide_eq_false (by omega : ¬ 262144 < n)]
  repeat (first | refine wZ ?_ | intro b)
  rw [decide_eq_false ho2]
  repeat (first | refine wZ ?_ | intro b)
  rw [decide_eq_false hn2]
  repeat (first | refine wZ ?_ | intro b)
  refine l_yes rfl rfl rfl (s_call rfl rfl hsc [1, 1] rfl ?_ (fun _ _ h => h.elim))
  rintro _ _ ⟨rfl, rfl⟩
  repeat (first | refine wZ ?_ | intro b)
  rw [← hK]
  refine l_plain rfl (s_call rfl rfl hsz [0, 0] rfl ?_ (fun _ _ h => h.elim))
  rintro _ _ ⟨rfl, rfl⟩
  refine G.ent (L' := blk wb (cl (wCells w0 none 0) 70) :: blk sb (cl [.slice (some ⟨lb, 0, none⟩) xs.length lcap, .slice pa s.pts.length pc, .bool false, .bool s.vg, .bool s.ms] 75) :: blk lb (cl (xs.flatMap lvCells ++ rest) 80) :: Z :: slG (.slice la es.length lc) 139 2 (es.flatMap leCells) :: slP (.slice pa s.pts.length pc) 2 1 (ints s.pts) :: I :: F) (arr_ent 0 [2, 0, 0] _) ?_
  have hv2 : SV xs es Z la lc { s with ls := true } := ⟨hv.ys, hv.ok, hv.le, hv.top⟩
  obtain ⟨x, hx⟩ : ∃ x, xs[lastK s]? = some x := ⟨xs[lastK s], List.getElem?_eq_getElem (by omega)⟩
  have hin : isIn s = x.y.kd.isI := by
    unfold isIn
    rw [← hv.ys, List.getElem?_map, hx]
    rfl
  repeat (first | refine wZ ?_ | intro b)
  unfold doTr at hres ⊢
  by_cases hn1 : n < 0
  · rw [decide_eq_true hn1, if_pos hn1]
    repeat (first | refine wZ ?_ | intro b)
    refine l_yes rfl rfl rfl ?_
    apply s_val rfl rfl
    · exact RunS.v (r_index (i := lastK s) rfl rfl rfl (by omega))
    repeat (first | refine wZ ?_ | intro b)
    refine l_yes rfl rfl rfl ?_
    apply s_val (v := .string x.y.kd.s) rfl rfl
    · exact r_load rfl rfl (rd_blk 2 rfl (lc_get hx 0 (by decide)))
    rw [hin]
    cases hkd : x.y.kd with
    | inner =>
      rw [if_pos (by rfl)]
      repeat (first | refine wZ ?_ | intro b)
      exact do_ret (w := w0) (wa := none) (wc := 0) (s := { s with ls := true }) rfl rfl rfl rfl Src.nil rfl hv2 (Ent.refl _)
    | base =>
      rw [if_neg (by simp [KD.isI])]
      repeat (first | refine wZ ?_ | intro b)
      rw [decide_eq_true hn1]
      repeat (first | refine wZ ?_ | intro b)
      refine l_plain rfl ?_
      apply s_val rfl rfl
      · exact RunS.v (r_build (cells := (wCells ⟨-1, 0, []⟩ none 0).toArray) rfl (by kernel_rfl))
      repeat (first | refine wZ ?_ | intro b)
      exact do_ret (w := ⟨-1, 0, []⟩) (wa := none) (wc := 0) (s := s) rfl rfl rfl hls Src.nil rfl hv (Ent.refl _)
    | roll =>
      rw [if_neg (by simp [KD.isI])]
      repeat (first | refine wZ ?_ | intro b)
      rw [decide_eq_true hn1]
      repeat (first | refine wZ ?_ | intro b)
      refine l_plain rfl ?_
      apply s_val rfl rfl
      · exact RunS.v (r_build (cells := (wCells ⟨-1, 0, []⟩ none 0).toArray) rfl (by kernel_rfl))
      repeat (first | refine wZ ?_ | intro b)
      exact do_ret (w := ⟨-1, 0, []⟩) (wa := none) (wc := 0) (s := s) rfl rfl rfl hls Src.nil rfl hv (Ent.refl _)
  rw [decide_eq_false hn1, if_neg hn1]
  rw [if_neg hn1] at hres
  obtain ⟨nn, rfl⟩ : ∃ nn : Nat, n = nn := ⟨n.toNat, by omega⟩
  rw [Int.toNat_natCast] at hres ⊢
  repeat (first | refine wZ ?_ | intro b)
  rw [decide_eq_false hn1]
  repeat (first | refine wZ ?_ | intro b)
  have hch := change_c (sb := sb) (lb := lb) (lcap := lcap) (rest := rest) (p1 := .slice pa s.pts.length pc) (p2 := .bool false) (p3 := .bool s.vg) (ma := s.ms) (xs := xs) hl1 hv.ok hB false [] none 0 Src.nil (Nat.zero_le _) (fun _ => ⟨rfl, rfl, rfl⟩) (lastK s) (by omega) nn (by have := hs.l1; omega) (by rw [hv.ys]; exact hres)
  rw [hv.ys] at hch
  refine l_plain rfl (s_call rfl rfl hch [1, 1, 1] rfl ?_ (fun _ _ h => h.elim))
  rintro _ _ ⟨rfl, xs', Z', g1, ⟨g2, g3⟩, g4, g5, rfl⟩
  repeat (first | refine wZ ?_ | intro b)
  have hv3 : SV xs' es Z' la lc (chS s false nn []) := SV_of hv g1 (chF_kd _ _ _ _ _) g3 g4 g5
  rw [← g2]
  exact do_ret (w := ⟨((chF s.ys (lastK s) false nn []).2.2 : Nat), 0, []⟩) (wa := none) (wc := 0) (s := chS s false nn []) rfl rfl rfl hls Src.nil rfl hv3 g5
set_option maxHeartbeats 8000000 in
theorem doPunch_c (hv : SV xs es Z la lc s) (hs : Sin s) (off n : Int) (ho : -1099511627776 ≤ off ∧ off ≤ 65536) (hn : -1099511627776 ≤ n ∧ n ≤ 65536) (bs : List UInt8) (da : Option Addr) (dc : Nat) (_hd : Src [I] 1 (.slice da bs.length dc) bs.length (u8s bs)) (_hbl : bs.length ≤ 131072) (hls : s.ls = false) (ho2 : ¬ off < -262144) (hn2 : ¬ n < -262144) (hsh : shortF s.ys = false) :
    Ct Tryz.prog 29 #[.pointer (some ⟨sb, 0, none⟩), .string sPunch, .int .i64 off, .int .i64 n, .slice da bs.length dc] (SH sb lb lcap rest xs es Z la lc pa pc s.pts s.ls s.vg s.ms ++ [I])
      (DoR Z I sb lb lcap rest xs.length (doPu s off n)) nev := by
  have hxl : xs.length = s.ys.length := by rw [← hv.ys, List.length_map]
  have hl0 : 0 < xs.length := by have := hs.l0; omega
  have hl1 : xs.length ≤ 1000 := by have := hs.l1; omega
  have hB : StB xs := fun k x hx => hs.bs k x.y (by rw [← hv.ys, List.getElem?_map, hx]; rfl)
  have hK : lastK s = xs.length - 1 := by unfold lastK; rw [hxl]
  have hsc := short_c (sb := sb) (lb := lb) (lcap := lcap) (rest := rest) (p1 := .slice pa s.pts.length pc) (p2 := .bool false) (p3 := .bool s.vg) (p4 := .bool s.ms) (xs := xs) hl1 hl0 hv.ok hB
  have hsz := size_c (sb := sb) (lb := lb) (lcap := lcap) (rest := rest) (p1 := .slice pa s.pts.length pc) (p2 := .bool false) (p3 := .bool s.vg) (p4 := .bool s.ms) (xs := xs) hl1 hv.ok hB (xs.length - 1) (by omega)
  have hsb := sizeF_bd hv.ok (lastK s)
  rw [hv.ys, hsh] at hsc
  rw [hv.ys, ← hK] at hsz
  rw [hv.ys] at hsb
  have hK9 : lastK s ≤ 999 := by omega
  unfold SH
  rw [hls]
  refine Ct.of Tryz.func29 rfl Tryz.ntmps29 rfl fun m F => ?_
  repeat (first | refine wZ ?_ | intro b)
  revert b; intro wb
  rw [decide_eq_false (by omega : ¬ 262144 < off)]
  repeat (first | refine wZ ?_ | intro b)
  rw [decide_eq_false (by omega : ¬ 262144 < n)]
  repeat (first | refine wZ ?_ | intro b)
  rw [decide_eq_false ho2]
  repeat (first | refine wZ ?_ | intro b)
  rw [decide_eq_false hn2]
  repeat (first | refine wZ ?_ | intro b)
  refine l_yes rfl rfl rfl (s_call rfl rfl hsc [1, 1] rfl ?_ (fun _ _ h => h.elim))
  rintro _ _ ⟨rfl, rfl⟩
  repeat (first | refine wZ ?_ | intro b)
  rw [← hK]
  refine l_plain rfl (s_call rfl rfl hsz [0, 0] rfl ?_ (fun _ _ h => h.elim))
  rintro _ _ ⟨rfl, rfl⟩
  refine G.ent (L' := blk wb (cl (wCells w0 none 0) 70) :: blk sb (cl [.slice (some ⟨lb, 0, none⟩) xs.length lcap, .slice pa s.pts.length pc, .bool false, .bool s.vg, .bool s.ms] 75) :: blk lb (cl (xs.flatMap lvCells ++ rest) 80) :: Z :: slG (.slice la es.length lc) 139 2 (es.flatMap leCells) :: slP (.slice pa s.pts.length pc) 2 1 (ints s.pts) :: I :: F) (arr_ent 0 [2, 0, 0] _) ?_
  have hv2 : SV xs es Z la lc { s with ls := true } := ⟨hv.ys, hv.ok, hv.le, hv.top⟩
  have htp := top_c (sb := sb) (lb := lb) (lcap := lcap) (rest := rest) (p1 := .slice pa s.pts.length pc) (p2 := .bool false) (p3 := .bool s.vg) (p4 := .bool s.ms) (xs := xs) hl1 hl0
  rw [hv.ys] at htp
  repeat (first | refine wZ ?_ | intro b)
  unfold doPu
  refine l_plain rfl (s_call rfl rfl htp [1, 1] rfl ?_ (fun _ _ h => h.elim))
  rintro _ _ ⟨rfl, rfl⟩
  have htl2 : topF s.ys < xs.length := by
    rw [hxl]
    exact topF_lt hs.l0
  have hin : inT s = match s.ys[topF s.ys]? with | some x => decide (0 < x.levels.length) | none => false := rfl
  generalize topF s.ys = t at htl2 hin htp ⊢
  obtain ⟨x, hx⟩ : ∃ x, xs[t]? = some x := ⟨xs[t], List.getElem?_eq_getElem htl2⟩
  rw [← hv.ys, List.getElem?_map, hx] at hin
  dsimp only [Option.map_some] at hin
  repeat (first | refine wZ ?_ | intro b)
  by_cases ht0 : t = 0
  · rw [decide_eq_true (by omega : (t : Int) = 0), if_pos ht0]
    repeat (first | refine wZ ?_ | intro b)
    exact do_ret (w := w0) (wa := none) (wc := 0) (s := s) rfl rfl rfl hls Src.nil rfl hv (Ent.refl _)
  rw [decide_eq_false (by omega : ¬ (t : Int) = 0), if_neg ht0]
  rw [hin]
  repeat (first | refine wZ ?_ | intro b)
  refine qt_call rfl rfl htp [0, 0] rfl (Ent.refl _) ?_
  repeat (first | refine wZ ?_ | intro b)
  apply qt_val rfl rfl rfl
  · exact RunS.v (r_index (i := t) rfl rfl rfl htl2)
  repeat (first | refine wZ ?_ | intro b)
  apply qt_val (v := .slice x.la x.y.levels.length x.lc) rfl rfl rfl
  · exact r_load rfl rfl (rd_blk 1 rfl (lc_get hx 5 (by decide)))
  repeat (first | refine wZ ?_ | intro b)
  by_cases hlv : 0 < x.y.levels.length
  · rw [decide_eq_true (by omega : (0 : Int) < (x.y.levels.length : Nat)), if_pos (by simp [hlv])]
    repeat (first | refine wZ ?_ | intro b)
    exact do_ret (w := w0) (wa := none) (wc := 0) (s := { s with ls := true }) rfl rfl rfl rfl Src.nil rfl hv2 (Ent.refl _)
  rw [decide_eq_false (by omega : ¬ (0 : Int) < (x.y.levels.length : Nat)), if_neg (by simp [hlv])]
  repeat (first | refine wZ ?_ | intro b)
  by_cases ho1 : off < 0
  · rw [decide_eq_true ho1, if_pos (Or.inl ho1)]
    repeat (first | refine wZ ?_ | intro b)
    refine l_plain rfl ?_
    apply s_val rfl rfl
    · exact RunS.v (r_build (cells := (wCells ⟨-1, 0, []⟩ none 0).toArray) rfl (by kernel_rfl))
    repeat (first | refine wZ ?_ | intro b)
    exact do_ret (w := ⟨-1, 0, []⟩) (wa := none) (wc := 0) (s := s) rfl rfl rfl hls Src.nil rfl hv (Ent.refl _)
  rw [decide_eq_false ho1]
  repeat (first | refine wZ ?_ | intro b)
  by_cases hn1 : n < 0
  · rw [decide_eq_true hn1, if_pos (Or.inr hn1)]
    repeat (first | refine wZ ?_ | intro b)
    refine l_plain rfl ?_
    apply s_val rfl rfl
    · exact RunS.v (r_build (cells := (wCells ⟨-1, 0, []⟩ none 0).toArray) rfl (by kernel_rfl))
    repeat (first | refine wZ ?_ | intro b)
    exact do_ret (w := ⟨-1, 0, []⟩) (wa := none) (wc := 0) (s := s) rfl rfl rfl hls Src.nil rfl hv (Ent.refl _)
  rw [decide_eq_false hn1, if_neg (by omega)]
  repeat (first | refine wZ ?_ | intro b)
  exact do_ret (w := ⟨3, 0, []⟩) (wa := none) (wc := 0) (s := s) rfl rfl rfl hls Src.nil rfl hv (Ent.refl _)

end
end Go.Proofs.YtfebpbflpdppiaaGreatDoor
