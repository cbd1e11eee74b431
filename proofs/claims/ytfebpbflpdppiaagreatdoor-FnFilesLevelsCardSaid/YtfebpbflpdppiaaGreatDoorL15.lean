/- The reference's lists of marks; whether bytes are those of a file · The reference: whether bytes are those of a file · The reference's stacks: what they hold; what is seen at a layer · The reference's stacks: sizes; which layer is the topmost rollback; whether a file is short · The reference's stacks: a file of an open transaction is made longer · The reference's stacks: changes · The reference's stacks: changes at a rollback. -/
import Derived.Test.YtfebpbflpdppiaaGreatDoorL14
namespace Go.Proofs.YtfebpbflpdppiaaGreatDoor
open Go Go.Sl
set_option maxRecDepth 100000
def mkF (l : List Bool) (o n : Nat) : List Bool := (l ++ List.replicate (o + n - l.length) false).take o ++ List.replicate n true ++ (l ++ List.replicate (o + n - l.length) false).drop (o + n)
theorem mkF_length (l : List Bool) (o n : Nat) : (mkF l o n).length = max l.length (o + n) := by simp [mkF]; omega
def belowF (l : List Bool) (s : Nat) : Bool := (l.take s).any id
def fitsF (p : List Int) (b : List UInt8) : Bool := p.length == b.length && (p.zip (kn b)).all fun x => decide (x.1 < 0) || decide (x.1 = x.2)
theorem bls_get (l : List Bool) (i : Nat) : (bls l)[i]? = (l[i]?).map Value.bool := by simp [bls]
theorem bls_set (l : List Bool) (i : Nat) (v : Bool) : (bls l).set i (.bool v) = bls (l.set i v) := by simp [bls]
def mrk (q : List Bool) (o j : Nat) : List Bool := q.take o ++ List.replicate (j - o) true ++ q.drop j
theorem mrk_length {q : List Bool} {o j : Nat} (h1 : o ≤ j) (h2 : j ≤ q.length) : (mrk q o j).length = q.length := by simp [mrk]; omega
theorem mrk_set {q : List Bool} {o j : Nat} (h1 : o ≤ j) (h2 : j < q.length) : (mrk q o j).set j true = mrk q o (j + 1) := by
  have e1 : q.drop j = q[j] :: q.drop (j + 1) := List.drop_eq_getElem_cons h2
  unfold mrk
  rw [e1, List.set_append_right _ _ (by simp; omega)]
  have e2 : j - (List.take o q ++ List.replicate (j - o) true).length = 0 := by simp; omega
  rw [e2, List.set_cons_zero, show j + 1 - o = (j - o) + 1 from by omega, List.replicate_succ']
  simp
theorem bls_set_app (l : List Bool) (rest : List Value) (i : Nat) (v : Bool) (h : i < l.length) : (bls l ++ rest).set i (.bool v) = bls (l.set i v) ++ rest := by
  rw [List.set_append_left _ _ (by simpa using h), bls_set]
theorem blt_of {a b : Nat} (h : a < b) : Nat.blt a b = true := Nat.ble_eq_true_of_le h
attribute [local irreducible] wpList Code.wp Exit.then Exit.inBlock bodyPost RunS RunV G St Ct Sat Ent At Rd GQ QL wpAny wpOp wpQuiet slP Sl.ex sep
section
variable {Z : HP}
theorem below_c (l : List Bool) (a : Option Addr) (k c s : Nat) (hs : Src [Z] 1 (.slice a k c) k (bls l)) (hk : k ≤ 10000000) (hn : s ≤ 10000000) :
    Ct Tryz.prog 52 #[.slice a k c, .int .i64 (s : Nat)] [Z] (fun v B => v = .bool (belowF l s) ∧ B = [Z]) nev := by
  have hkl : l.length = k := by have := hs.len; simpa using this
  refine Ct.of Tryz.func52 rfl Tryz.ntmps52 rfl fun m F => ?_
  repeat (first | refine wZ ?_ | intro b)
  refine c_loop (α := Nat) (fun y => [(5, .int .i64 (y : Nat)), (1, .int .i64 (s : Nat)), (0, .slice a k c)])
    (fun y => Z :: F) (fun y => y ≤ s ∧ y ≤ k ∧ (l.take y).any id = false) (fun y => k - y) 0 ⟨Nat.zero_le _, Nat.zero_le _, rfl⟩ (by exact ⟨rfl, rfl, rfl, trivial⟩) (Ent.refl _) ?_
  rintro i ⟨hi1, hi2, hi3⟩
  by_cases h1 : i < s
  · by_cases h2 : i < k
    · obtain ⟨b0, o0, rfl, hr⟩ := src_addr hs (by omega)
      obtain ⟨bv, hx⟩ : ∃ bv, l[i]? = some bv := ⟨l[i]'(by omega), List.getElem?_eq_getElem (by omega)⟩
      have hx2 : (bls l)[i]? = some (.bool bv) := by rw [bls_get, hx]; rfl
      repeat (first | refine wZ ?_ | intro b)
      rw [decide_eq_true (by omega : (i : Int) < (s : Int))]
      repeat (first | refine wZ ?_ | intro b)
      rw [decide_eq_true (by omega : (i : Int) < (k : Int))]
      repeat (first | refine wZ ?_ | intro b)
      refine l_plain rfl ?_
      apply s_val rfl rfl
      · exact RunS.v (r_index (i := i) rfl rfl rfl h2)
      refine l_plain rfl ?_
      apply s_val rfl rfl
      · rw [Nat.mul_one]
        exact r_load rfl rfl (Rd.at (hr.get hx2) 0 rfl)
      repeat (first | refine wZ ?_ | intro b)
      have ht : l.take (i + 1) = l.take i ++ [bv] := by rw [List.take_add_one, hx]; rfl
      cases bv with
      | true =>
        repeat (first | refine wZ ?_ | intro b)
        refine e_ret1 _ rfl rfl ⟨?_, rfl⟩ (Ent.refl _)
        unfold belowF
        rw [List.any_eq_true.2 ⟨true, ?_, rfl⟩]
        have : true ∈ l.take (i + 1) := by rw [ht]; simp
        exact List.take_subset_take_left l h1 this
      | false =>
        repeat (first | refine wZ ?_ | intro b)
        exact at_intro (i + 1) ⟨⟨h1, h2, by rw [ht, List.any_append, hi3]; rfl⟩, by omega⟩ ⟨rfl, rfl, rfl, trivial⟩ (Ent.refl _)
    · repeat (first | refine wZ ?_ | intro b)
      rw [decide_eq_true (by omega : (i : Int) < (s : Int))]
      repeat (first | refine wZ ?_ | intro b)
      rw [decide_eq_false (by omega : ¬ (i : Int) < (k : Int))]
      repeat (first | refine wZ ?_ | intro b)
      refine e_ret1 _ rfl rfl ⟨?_, rfl⟩ (Ent.refl _)
      unfold belowF
      rw [List.take_of_length_le (by omega)] at hi3 ⊢
      rw [hi3]
  · obtain rfl : i = s := by omega
    repeat (first | refine wZ ?_ | intro b)
    rw [decide_eq_false (by omega : ¬ (i : Int) < (i : Int))]
    repeat (first | refine wZ ?_ | intro b)
    refine e_ret1 _ rfl rfl ⟨?_, rfl⟩ (Ent.refl _)
    unfold belowF
    rw [hi3]
theorem marked_c (l : List Bool) (a : Option Addr) (k c o nn : Nat) (hs : Src [Z] 1 (.slice a k c) k (bls l)) (hk : k ≤ 10000000) (ho : o ≤ 10000000) (hn : nn ≤ 10000000) :
    Ct Tryz.prog 48 #[.slice a k c, .int .i64 (o : Nat), .int .i64 (nn : Nat)] [Z] (fun v B => ∃ a' c', v = .slice a' (max k (o + nn)) c' ∧ B = [Z, slP (.slice a' (max k (o + nn)) c') 4 1 (bls (mkF l o nn))]) nev := by
  have hkl : l.length = k := by have := hs.len; simpa using this
  refine Ct.of Tryz.func48 rfl Tryz.ntmps48 rfl fun m F => ?_
  repeat (first | refine wZ ?_ | intro b)
  revert b; intro tb
  refine G.ent (L' := slP (.slice (some ⟨tb, 0, none⟩) 0 0) 4 1 [] :: Z :: F) (slP_blk (k := 0) rfl (Nat.zero_le _)) ?_
  refine l_plain rfl (s_append (i := 0) rfl rfl rfl (RE hs 1 rfl) rfl rfl rfl (bls_one _) (by omega) (by simp only [maxLen]; omega) rfl ?_)
  intro a1 c1
  rw [List.nil_append, Nat.zero_add]
  repeat (first | refine wZ ?_ | intro b)
  refine c_loop (α := Nat × Option Addr × Nat) (fun y => [(1, .int .i64 (o : Nat)), (2, .int .i64 (nn : Nat)), (7, .slice y.2.1 y.1 y.2.2)])
    (fun y => slP (.slice y.2.1 y.1 y.2.2) 4 1 (bls (l ++ List.replicate (y.1 - k) false)) :: Z :: F) (fun y => k ≤ y.1 ∧ y.1 ≤ max k (o + nn)) (fun y => max k (o + nn) - y.1) (k, a1, c1) ⟨by dsimp only; omega, by dsimp only; omega⟩ (by exact ⟨rfl, rfl, rfl, trivial⟩) (by dsimp only; rw [Nat.sub_self, List.replicate_zero, List.append_nil]; exact Ent.refl _) ?_
  rintro ⟨i, a', c'⟩ ⟨hi1, hi2⟩
  dsimp only at hi1 hi2 ⊢
  repeat (first | refine wZ ?_ | intro b)
  by_cases hlt : i < o + nn
  · rw [decide_eq_true (by omega : (i : Int) < ((o + nn : Nat) : Int))]
    repeat (first | refine wZ ?_ | intro b)
    refine l_plain rfl (s_append (i := 1) rfl rfl rfl (Src.some _ _ _ _ _ rfl (rdn_all 0 rfl)) rfl rfl (by simp; omega) rfl (by omega) (by simp only [maxLen]; omega) rfl ?_)
    intro a2 c2
    repeat (first | refine wZ ?_ | intro b)
    have e1 : bls (l ++ List.replicate (i - k) false) ++ [Value.bool false] = bls (l ++ List.replicate (i + 1 - k) false) := by
      rw [bls_snoc, List.append_assoc, show i + 1 - k = (i - k) + 1 from by omega, List.replicate_succ']
    rw [e1]
    exact at_intro (i + 1, a2, c2) ⟨⟨by dsimp only; omega, by dsimp only; omega⟩, by dsimp only; omega⟩ ⟨rfl, rfl, rfl, trivial⟩ (arr_ent 1 [0, 1] _)
  · obtain rfl : i = max k (o + nn) := by omega
    rw [decide_eq_false (by omega : ¬ ((max k (o + nn) : Nat) : Int) < ((o + nn : Nat) : Int))]
    repeat (first | refine wZ ?_ | intro b)
    have e2 : l ++ List.replicate (max k (o + nn) - k) false = l ++ List.replicate (o + nn - l.length) false := by rw [hkl, show max k (o + nn) - k = o + nn - k from by omega]
    rw [e2]
    generalize hq : l ++ List.replicate (o + nn - l.length) false = q
    have hql : q.length = max k (o + nn) := by rw [← hq]; simp; omega
    have hfin : mkF l o nn = mrk q o (o + nn) := by unfold mkF mrk; rw [hq, Nat.add_sub_cancel_left]
    have h0 : mrk q o o = q := by unfold mrk; rw [Nat.sub_self]; simp
    by_cases hnn : nn = 0
    · subst hnn
      rw [hfin, Nat.add_zero, h0]
      refine c_loop (α := Unit) (fun _ => [(8, .int .i64 (o : Nat)), (1, .int .i64 (o : Nat)), (2, .int .i64 (0 : Nat)), (7, .slice a' (max k (o + 0)) c')]) (fun _ => slP (.slice a' (max k (o + 0)) c') 4 1 (bls q) :: Z :: F) (fun _ => True) (fun _ => 0) () trivial (by exact ⟨rfl, rfl, rfl, rfl, trivial⟩) (Ent.refl _) ?_
      rintro _ _
      repeat (first | refine wZ ?_ | intro b)
      rw [decide_eq_false (by omega : ¬ (o : Int) < ((o + 0 : Nat) : Int))]
      repeat (first | refine wZ ?_ | intro b)
      exact e_ret1 _ rfl rfl ⟨a', c', rfl, rfl⟩ (arr_ent 0 [1, 0] _)
    refine slP_open (fun ha h1 h2 h3 => by omega) (fun db rest ha h1 h2 h3 h4 => ?_)
    subst ha
    refine c_loop (α := Nat) (fun y => [(8, .int .i64 (y : Nat)), (1, .int .i64 (o : Nat)), (2, .int .i64 (nn : Nat)), (7, .slice (some ⟨db, 0, none⟩) (max k (o + nn)) c')]) (fun y => blk db (cl (bls (mrk q o y) ++ rest) 4) :: Z :: F) (fun y => o ≤ y ∧ y ≤ o + nn) (fun y => o + nn - y) o ⟨Nat.le_refl _, by omega⟩ (by exact ⟨rfl, rfl, rfl, rfl, trivial⟩) (by rw [h0]; exact Ent.refl _) ?_
    rintro j ⟨hj1, hj2⟩
    by_cases hj : j < o + nn
    · repeat (first | refine wZ ?_ | intro b)
      rw [decide_eq_true (by omega : (j : Int) < ((o + nn : Nat) : Int))]
      repeat (first | refine wZ ?_ | intro b)
      refine l_plain rfl ?_
      apply s_val rfl rfl
      · exact RunS.v (r_index (i := j) rfl rfl rfl (by omega))
      refine l_plain rfl ?_
      rw [Nat.mul_one, Nat.zero_add]
      refine s_store (i := 0) rfl rfl rfl rfl rfl rfl (blt_of ?_) ?_
      · rw [List.length_append, bls_length, mrk_length hj1 (by omega)]
        omega
      rw [bls_set_app _ _ _ _ (by rw [mrk_length hj1 (by omega)]; omega), mrk_set hj1 (by omega)]
      repeat (first | refine wZ ?_ | intro b)
      exact at_intro (j + 1) ⟨⟨by omega, hj⟩, by omega⟩ ⟨rfl, rfl, rfl, rfl, trivial⟩ (Ent.refl _)
    · obtain rfl : j = o + nn := by omega
      repeat (first | refine wZ ?_ | intro b)
      rw [decide_eq_false (by omega : ¬ ((o + nn : Nat) : Int) < ((o + nn : Nat) : Int))]
      repeat (first | refine wZ ?_ | intro b)
      rw [hfin]
      refine e_ret1 _ rfl rfl ⟨some ⟨db, 0, none⟩, c', rfl, rfl⟩ ?_
      refine (slP_shut (by rw [bls_length, mrk_length (by omega) (by omega), hql, Nat.mul_one]) h2 h3 ?_).trans (arr_ent 0 [1, 0] _)
      rw [List.length_append, bls_length] at h4 ⊢
      rw [mrk_length (by omega) (by omega)]
      exact h4
end
end Go.Proofs.YtfebpbflpdppiaaGreatDoor
namespace Go.Proofs.YtfebpbflpdppiaaGreatDoor
open Go Go.Sl
set_option maxRecDepth 100000
attribute [local irreducible] wpList Code.wp Exit.then Exit.inBlock bodyPost RunS RunV G St Ct Sat Ent At Rd GQ QL wpAny wpOp wpQuiet slP Sl.ex sep
end Go.Proofs.YtfebpbflpdppiaaGreatDoor
namespace Go.Proofs.YtfebpbflpdppiaaGreatDoor
open Go Go.Sl
set_option maxRecDepth 100000
inductive KD where
  | base
  | inner
  | roll
abbrev sRb : ByteArray := ⟨#[114, 111, 108, 108, 98, 97, 99, 107]⟩
def KD.s : KD → ByteArray
  | .base => ⟨#[]⟩
  | .inner => sInner
  | .roll => sRb
/-- a layer -/
structure Ly where
  kd : KD
  off : Nat
  bytes : List Int
  wrote : List Bool
  shadow : Nat
  levels : List (List Int × List Bool)
/-- a layer, and where its slices lie -/
structure LV where
  y : Ly
  va : Option Addr
  vc : Nat
  wa : Option Addr
  wc : Nat
  la : Option Addr
  lc : Nat
def lvCells (x : LV) : List Value := [.string x.y.kd.s, .int .i64 (x.y.off : Nat), .slice x.va x.y.bytes.length x.vc, .slice x.wa x.y.wrote.length x.wc, .int .i64 (x.y.shadow : Nat), .slice x.la x.y.levels.length x.lc]
/-- its slices are read, and it is not great -/
structure LVok (Z : HP) (x : LV) : Prop where
  b : Src [Z] 1 (.slice x.va x.y.bytes.length x.vc) x.y.bytes.length (i16s x.y.bytes)
  bc : x.y.bytes.length ≤ x.vc
  w : Src [Z] 1 (.slice x.wa x.y.wrote.length x.wc) x.y.wrote.length (bls x.y.wrote)
  wc : x.y.wrote.length ≤ x.wc
  bn : x.y.bytes.length ≤ 1000000
  wn : x.y.wrote.length ≤ 1000000
  on : x.y.off ≤ 1000000
  sn : x.y.shadow ≤ 1000000
  ln : x.y.levels.length ≤ 1000
def vwAt (x : Ly) (U : List Int) : List Int := match x.kd with
  | .roll => match x.levels with
    | [] => U
    | _ => x.bytes
  | _ => U.drop x.off
def viewF (l : List Ly) : Nat → List Int
  | 0 => match l[0]? with
    | some x => x.bytes
    | none => []
  | k + 1 => match l[k + 1]? with
    | some x => vwAt x (viewF l k)
    | none => []
def szAt (x : Ly) (q : Int) (V : List Int) : Int := match x.kd with
  | .inner => q - (x.off : Int)
  | _ => (V.length : Nat)
def sizeF (l : List Ly) : Nat → Int
  | 0 => ((viewF l 0).length : Nat)
  | k + 1 => match l[k + 1]? with
    | some x => szAt x (sizeF l k) (viewF l (k + 1))
    | none => 0
theorem lc_get {xs : List LV} {rest : List Value} {k : Nat} {x : LV} (hx : xs[k]? = some x) (j : Nat) (hj : j < 6) : (xs.flatMap lvCells ++ rest)[0 + k * 6 + j]? = (lvCells x)[j]? := by
  have h1 := flat_part lvCells 6 (fun _ => rfl) xs k x hx
  have hk : k < xs.length := (List.getElem?_eq_some_iff.1 hx).1
  have hl := flat_len lvCells 6 (fun _ => rfl) xs
  rw [← h1, List.getElem?_take, if_pos hj, List.getElem?_drop, Nat.zero_add, List.getElem?_append_left]
  rw [hl]
  have := Nat.mul_le_mul_right 6 (show k + 1 ≤ xs.length from hk)
  rw [Nat.succ_mul] at this
  omega
section
variable {P : Program} {σ : Env} {ty : TypeId} {pos : String} {aft : Array Edge} {gd : Option (Nat × Bool)} {x y : Operand} {t e : TypeId}
theorem r_slLoN {od : Option Tmp} {size bytes len cap lo : Nat} {z : Value} {a : Option Addr} {k : IntKind} [h1 : TyU P t (.slice e)] [h2 : TyI P e size bytes z] (hx : opd σ x = some (.slice a len cap)) (hy : opd σ y = some (.int k (lo : Nat))) (hlo : lo ≤ len) :
    RunS P ⟨od, .slice t x (some y) none none, ty, pos, aft, gd⟩ σ (.slice (if cap = lo then a else a.map (·.add (lo * size))) (len - lo) (cap - lo)) := by
  have h := r_slLo (P := P) (od := od) (t := t) (ty := ty) (pos := pos) (aft := aft) (gd := gd) hx hy (by omega)
  rwa [Int.toNat_natCast] at h
end
def StB (xs : List LV) : Prop := ∀ k x, xs[k + 1]? = some x → x.y.kd ≠ .base
theorem viewF_le {Z : HP} {xs : List LV} (hok : ∀ x ∈ xs, LVok Z x) : ∀ k, (viewF (xs.map (·.y)) k).length ≤ 1000000
  | 0 => by
    unfold viewF
    rw [List.getElem?_map]
    cases h : xs[0]? with
    | none => simp
    | some x => exact (hok x (List.mem_of_getElem? h)).bn
  | k + 1 => by
    unfold viewF
    rw [List.getElem?_map]
    cases h : xs[k + 1]? with
    | none => simp
    | some x =>
      have ih := viewF_le hok k
      have := (hok x (List.mem_of_getElem? h)).bn
      show (vwAt x.y (viewF (xs.map (·.y)) k)).length ≤ _
      unfold vwAt
      split
      · split
        · exact ih
        · exact this
      · simp
        omega
theorem viewF_succ {xs : List LV} {k : Nat} {x : LV} (hx : xs[k + 1]? = some x) : viewF (xs.map (·.y)) (k + 1) = vwAt x.y (viewF (xs.map (·.y)) k) := by
  conv => lhs; unfold viewF
  rw [List.getElem?_map, hx]
  rfl
theorem sizeF_succ {xs : List LV} {k : Nat} {x : LV} (hx : xs[k + 1]? = some x) : sizeF (xs.map (·.y)) (k + 1) = szAt x.y (sizeF (xs.map (·.y)) k) (viewF (xs.map (·.y)) (k + 1)) := by
  conv => lhs; unfold sizeF
  rw [List.getElem?_map, hx]
  rfl
attribute [local irreducible] wpList Code.wp Exit.then Exit.inBlock bodyPost RunS RunV G St Ct Sat Ent At Rd GQ QL wpAny wpOp wpQuiet slP Sl.ex sep
section
variable {Z : HP} {sb lb lcap : Nat} {p1 p2 p3 p4 : Value} {rest : List Value} {xs : List LV}
set_option maxHeartbeats 4000000 in
theorem view_c (hxl : xs.length ≤ 1000) (hok : ∀ x ∈ xs, LVok Z x) (hB : StB xs) : ∀ k, k < xs.length →
    Ct Tryz.prog 40 #[.pointer (some ⟨sb, 0, none⟩), .int .i64 (k : Nat)] [blk sb (cl [.slice (some ⟨lb, 0, none⟩) xs.length lcap, p1, p2, p3, p4] 75), blk lb (cl (xs.flatMap lvCells ++ rest) 80)]
      (fun v B => (∃ a c, v = .slice a (viewF (xs.map (·.y)) k).length c ∧ (viewF (xs.map (·.y)) k).length ≤ c ∧ Src [Z] 1 v (viewF (xs.map (·.y)) k).length (i16s (viewF (xs.map (·.y)) k))) ∧ B = [blk sb (cl [.slice (some ⟨lb, 0, none⟩) xs.length lcap, p1, p2, p3, p4] 75), blk lb (cl (xs.flatMap lvCells ++ rest) 80)]) nev := by
  intro k
  induction k with
  | zero =>
    intro hk
    obtain ⟨x, hx⟩ : ∃ x, xs[0]? = some x := ⟨xs[0], List.getElem?_eq_getElem hk⟩
    have hxo := hok x (List.mem_of_getElem? hx)
    have hv : viewF (xs.map (·.y)) 0 = x.y.bytes := by unfold viewF; rw [List.getElem?_map, hx]; rfl
    rw [hv]
    refine Ct.of Tryz.func40 rfl Tryz.ntmps40 rfl fun m F => ?_
    repeat (first | refine wZ ?_ | intro b)
    refine l_plain rfl ?_
    apply s_val rfl rfl
    · exact RunS.v (r_index (i := 0) rfl rfl rfl hk)
    repeat (first | refine wZ ?_ | intro b)
    rw [decide_eq_true (by omega : ((0 : Nat) : Int) = 0)]
    repeat (first | refine wZ ?_ | intro b)
    refine l_plain rfl ?_
    apply s_val rfl rfl
    · exact r_load rfl rfl (rd_blk 1 rfl (lc_get hx 2 (by decide)))
    repeat (first | refine wZ ?_ | intro b)
    exact e_ret1 _ rfl rfl ⟨⟨_, _, rfl, hxo.bc, hxo.b⟩, rfl⟩ (Ent.refl _)
  | succ k ih =>
    intro hk
    have ih := ih (by omega)
    obtain ⟨x, hx⟩ : ∃ x, xs[k + 1]? = some x := ⟨xs[k + 1], List.getElem?_eq_getElem hk⟩
    have hxo := hok x (List.mem_of_getElem? hx)
    have hnb := hB k x hx
    have hle := viewF_le hok k
    obtain ⟨⟨kd, off, bytes, wrote, shadow, levels⟩, va, vc, wa, wc, la, lc⟩ := x
    have hv : viewF (xs.map (·.y)) (k + 1) = vwAt ⟨kd, off, bytes, wrote, shadow, levels⟩ (viewF (xs.map (·.y)) k) := viewF_succ hx
    generalize viewF (xs.map (·.y)) (k + 1) = V at hv ⊢
    generalize viewF (xs.map (·.y)) k = U at hv ih hle
    refine Ct.of Tryz.func40 rfl Tryz.ntmps40 rfl fun m F => ?_
    repeat (first | refine wZ ?_ | intro b)
    refine l_plain rfl ?_
    apply s_val rfl rfl
    · exact RunS.v (r_index (i := k + 1) rfl rfl rfl hk)
    repeat (first | refine wZ ?_ | intro b)
    rw [decide_eq_false (by omega : ¬ ((k + 1 : Nat) : Int) = 0)]
    cases kd with
    | base => exact absurd rfl hnb
    | roll =>
      repeat (first | refine wZ ?_ | intro b)
      refine l_yes rfl rfl rfl ?_
      apply s_val rfl rfl
      · exact r_load rfl rfl (rd_blk 1 rfl (lc_get hx 0 (by decide)))
      repeat (first | refine wZ ?_ | intro b)
      refine l_yes rfl rfl rfl ?_
      apply s_val rfl rfl
      · exact r_load rfl rfl (rd_blk 1 rfl (lc_get hx 5 (by decide)))
      cases levels with
      | nil =>
        repeat (first | refine wZ ?_ | intro b)
        rw [decide_eq_false (by simp : ¬ (0 : Int) < ((([] : List (List Int × List Bool)).length : Nat) : Int))]
        repeat (first | refine wZ ?_ | intro b)
        refine l_plain rfl ?_
        apply s_val rfl rfl
        · exact r_load rfl rfl (rd_blk 1 rfl (lc_get hx 0 (by decide)))
        repeat (first | refine wZ ?_ | intro b)
        refine l_plain rfl (s_call rfl rfl ih [0, 0] rfl ?_ (fun _ _ h => h.elim))
        rintro _ _ ⟨⟨a, c, rfl, h1, h2⟩, rfl⟩
        repeat (first | refine wZ ?_ | intro b)
        subst hv
        exact e_ret1 _ rfl rfl ⟨⟨a, c, rfl, h1, h2⟩, rfl⟩ (Ent.refl _)
      | cons z zs =>
        repeat (first | refine wZ ?_ | intro b)
        rw [decide_eq_true (by simp : (0 : Int) < (((z :: zs).length : Nat) : Int))]
        repeat (first | refine wZ ?_ | intro b)
        refine l_plain rfl ?_
        apply s_val rfl rfl
        · exact r_load rfl rfl (rd_blk 1 rfl (lc_get hx 2 (by decide)))
        repeat (first | refine wZ ?_ | intro b)
        subst hv
        exact e_ret1 _ rfl rfl ⟨⟨_, _, rfl, hxo.bc, hxo.b⟩, rfl⟩ (Ent.refl _)
    | inner =>
      repeat (first | refine wZ ?_ | intro b)
      refine l_yes rfl rfl rfl ?_
      apply s_val rfl rfl
      · exact r_load rfl rfl (rd_blk 1 rfl (lc_get hx 0 (by decide)))
      repeat (first | refine wZ ?_ | intro b)
      refine l_plain rfl ?_
      apply s_val rfl rfl
      · exact r_load rfl rfl (rd_blk 1 rfl (lc_get hx 0 (by decide)))
      repeat (first | refine wZ ?_ | intro b)
      refine l_plain rfl (s_call rfl rfl ih [0, 0] rfl ?_ (fun _ _ h => h.elim))
      rintro _ _ ⟨⟨a, c, rfl, h1, h2⟩, rfl⟩
      repeat (first | refine wZ ?_ | intro b)
      refine l_plain rfl ?_
      apply s_val rfl rfl
      · exact r_load rfl rfl (rd_blk 1 rfl (lc_get hx 1 (by decide)))
      repeat (first | refine wZ ?_ | intro b)
      rw [show min ((off : Nat) : Int) ((U.length : Nat) : Int) = ((min off U.length : Nat) : Int) from by omega]
      refine l_plain rfl ?_
      apply s_val rfl rfl
      · exact RunS.v (r_slLoN rfl rfl (by omega))
      repeat (first | refine wZ ?_ | intro b)
      have hlo := Src.lo (lo := min off U.length) h2 h1 (by omega)
      have hV : V = U.drop (min off U.length) := by
        rw [show V = U.drop off from hv]
        rcases Nat.le_total off U.length with h | h
        · rw [Nat.min_eq_left h]
        · rw [Nat.min_eq_right h, List.drop_of_length_le h, List.drop_of_length_le (Nat.le_refl _)]
      clear hv
      subst hV
      rw [Nat.mul_one, i16s_drop] at hlo
      refine e_ret1 _ rfl rfl ⟨⟨_, _, by rw [List.length_drop], by rw [List.length_drop]; omega, ?_⟩, rfl⟩ (Ent.refl _)
      rw [Nat.mul_one, List.length_drop]
      exact hlo
end
end Go.Proofs.YtfebpbflpdppiaaGreatDoor
namespace Go.Proofs.YtfebpbflpdppiaaGreatDoor
open Go Go.Sl
set_option maxRecDepth 100000
def KD.isR : KD → Bool
  | .roll => true
  | _ => false
def KD.isI : KD → Bool
  | .inner => true
  | _ => false
/-- the greatest number up to k, above 0, at which there is a rollback -/
def topG (l : List Ly) : Nat → Nat
  | 0 => 0
  | k + 1 => match l[k + 1]? with
    | some x => if x.kd.isR then k + 1 else topG l k
    | none => topG l k
def topF (l : List Ly) : Nat := topG l (l.length - 1)
def shortA (l : List Ly) (k : Nat) : Bool := match l[k]? with
  | some x => x.kd.isI && decide (sizeF l k < 0)
  | none => false
/-- whether some layer from i on, of so many, is short -/
def shortG (l : List Ly) (i : Nat) : Nat → Bool
  | 0 => false
  | n + 1 => shortA l i || shortG l (i + 1) n
def shortF (l : List Ly) : Bool := shortG l 1 (l.length - 1)
def benG (l : List Ly) (i : Nat) : Nat → Bool
  | 0 => false
  | n + 1 => (match l[i]? with | some x => x.kd.isR | none => false) || benG l (i + 1) n
/-- whether there is a rollback beneath a layer -/
def benF (l : List Ly) (k : Nat) : Bool := benG l 1 (k - 1)
theorem sizeF_bd {Z : HP} {xs : List LV} (hok : ∀ x ∈ xs, LVok Z x) : ∀ k : Nat, -(1000000 * (k : Int)) ≤ sizeF (xs.map (·.y)) k ∧ sizeF (xs.map (·.y)) k ≤ 1000000
  | 0 => by
    have := viewF_le hok 0
    show -(1000000 * ((0 : Nat) : Int)) ≤ (((viewF (xs.map (·.y)) 0).length : Nat) : Int) ∧ (((viewF (xs.map (·.y)) 0).length : Nat) : Int) ≤ 1000000
    omega
  | k + 1 => by
    have ih := sizeF_bd hok k
    have h2 := viewF_le hok (k + 1)
    cases h : xs[k + 1]? with
    | none =>
      have : sizeF (xs.map (·.y)) (k + 1) = 0 := by
        conv => lhs; unfold sizeF
        rw [List.getElem?_map, h]
        rfl
      omega
    | some x =>
      rw [sizeF_succ h]
      have := (hok x (List.mem_of_getElem? h)).on
      unfold szAt
      split
      · omega
      · omega
attribute [local irreducible] wpList Code.wp Exit.then Exit.inBlock bodyPost RunS RunV G St Ct Sat Ent At Rd GQ QL wpAny wpOp wpQuiet slP Sl.ex sep
section
variable {Z : HP} {sb lb lcap : Nat} {p1 p2 p3 p4 : Value} {rest : List Value} {xs : List LV}
set_option maxHeartbeats 4000000 in
theorem size_c (hxl : xs.length ≤ 1000) (hok : ∀ x ∈ xs, LVok Z x) (hB : StB xs) : ∀ k, k < xs.length →
    Ct Tryz.prog 38 #[.pointer (some ⟨sb, 0, none⟩), .int .i64 (k : Nat)] [blk sb (cl [.slice (some ⟨lb, 0, none⟩) xs.length lcap, p1, p2, p3, p4] 75), blk lb (cl (xs.flatMap lvCells ++ rest) 80)]
      (fun v B => v = .int .i64 (sizeF (xs.map (·.y)) k) ∧ B = [blk sb (cl [.slice (some ⟨lb, 0, none⟩) xs.length lcap, p1, p2, p3, p4] 75), blk lb (cl (xs.flatMap lvCells ++ rest) 80)]) nev := by
  intro k
  induction k with
  | zero =>
    intro hk
    have hv := view_c (p1 := p1) (p2 := p2) (p3 := p3) (p4 := p4) (rest := rest) (sb := sb) (lb := lb) (lcap := lcap) hxl hok hB 0 hk
    refine Ct.of Tryz.func38 rfl Tryz.ntmps38 rfl fun m F => ?_
    repeat (first | refine wZ ?_ | intro b)
    refine l_plain rfl ?_
    apply s_val rfl rfl
    · exact RunS.v (r_index (i := 0) rfl rfl rfl hk)
    repeat (first | refine wZ ?_ | intro b)
    rw [decide_eq_false (by omega : ¬ (0 : Int) < ((0 : Nat) : Int))]
    repeat (first | refine wZ ?_ | intro b)
    refine l_plain rfl (s_call rfl rfl hv [0, 0] rfl ?_ (fun _ _ h => h.elim))
    rintro _ _ ⟨⟨a, c, rfl, h1, h2⟩, rfl⟩
    repeat (first | refine wZ ?_ | intro b)
    exact e_ret1 _ rfl rfl ⟨rfl, rfl⟩ (Ent.refl _)
  | succ k ih =>
    intro hk
    have ih := ih (by omega)
    have hv := view_c (p1 := p1) (p2 := p2) (p3 := p3) (p4 := p4) (rest := rest) (sb := sb) (lb := lb) (lcap := lcap) hxl hok hB (k + 1) hk
    obtain ⟨x, hx⟩ : ∃ x, xs[k + 1]? = some x := ⟨xs[k + 1], List.getElem?_eq_getElem hk⟩
    have hxo := hok x (List.mem_of_getElem? hx)
    have hnb := hB k x hx
    have hsz := sizeF_succ hx
    have hbd := sizeF_bd hok k
    generalize sizeF (xs.map (·.y)) (k + 1) = q at hsz ⊢
    generalize sizeF (xs.map (·.y)) k = q0 at hsz ih hbd
    generalize viewF (xs.map (·.y)) (k + 1) = V at hsz hv
    obtain ⟨⟨kd, off, bytes, wrote, shadow, levels⟩, va, vc, wa, wc, la, lc⟩ := x
    have hon := hxo.on
    dsimp only at hon
    refine Ct.of Tryz.func38 rfl Tryz.ntmps38 rfl fun m F => ?_
    repeat (first | refine wZ ?_ | intro b)
    refine l_plain rfl ?_
    apply s_val rfl rfl
    · exact RunS.v (r_index (i := k + 1) rfl rfl rfl hk)
    repeat (first | refine wZ ?_ | intro b)
    rw [decide_eq_true (by omega : (0 : Int) < ((k + 1 : Nat) : Int))]
    repeat (first | refine wZ ?_ | intro b)
    refine l_yes rfl rfl rfl ?_
    apply s_val rfl rfl
    · exact r_load rfl rfl (rd_blk 1 rfl (lc_get hx 0 (by decide)))
    cases kd with
    | base => exact absurd rfl hnb
    | roll =>
      repeat (first | refine wZ ?_ | intro b)
      refine l_plain rfl (s_call rfl rfl hv [0, 0] rfl ?_ (fun _ _ h => h.elim))
      rintro _ _ ⟨⟨a, c, rfl, h1, h2⟩, rfl⟩
      repeat (first | refine wZ ?_ | intro b)
      subst hsz
      exact e_ret1 _ rfl rfl ⟨rfl, rfl⟩ (Ent.refl _)
    | inner =>
      repeat (first | refine wZ ?_ | intro b)
      refine qt_call rfl rfl ih [0, 0] rfl (Ent.refl _) ?_
      repeat (first | refine wZ ?_ | intro b)
      apply qt_val (v := .int .i64 (off : Nat)) rfl rfl rfl
      · exact r_load rfl rfl (rd_blk 1 rfl (lc_get hx 1 (by decide)))
      repeat (first | refine wZ ?_ | intro b)
      subst hsz
      exact e_ret1 _ rfl rfl ⟨rfl, rfl⟩ (Ent.refl _)
theorem topG_step {l : List Ly} {k : Nat} {x : Ly} (hx : l[k + 1]? = some x) : topG l (k + 1) = if x.kd.isR then k + 1 else topG l k := by
  conv => lhs; unfold topG
  rw [hx]
theorem top_c (hxl : xs.length ≤ 1000) (h0 : 0 < xs.length) :
    Ct Tryz.prog 41 #[.pointer (some ⟨sb, 0, none⟩)] [blk sb (cl [.slice (some ⟨lb, 0, none⟩) xs.length lcap, p1, p2, p3, p4] 75), blk lb (cl (xs.flatMap lvCells ++ rest) 80)]
      (fun v B => v = .int .i64 (topF (xs.map (·.y)) : Nat) ∧ B = [blk sb (cl [.slice (some ⟨lb, 0, none⟩) xs.length lcap, p1, p2, p3, p4] 75), blk lb (cl (xs.flatMap lvCells ++ rest) 80)]) nev := by
  refine Ct.of Tryz.func41 rfl Tryz.ntmps41 rfl fun m F => ?_
  have htf : topF (xs.map (·.y)) = topG (xs.map (·.y)) (xs.length - 1) := by unfold topF; rw [List.length_map]
  repeat (first | refine wZ ?_ | intro b)
  refine c_loop (α := Nat) (fun y => [(3, .int .i64 (y : Nat)), (0, .pointer (some ⟨sb, 0, none⟩))]) (fun y => blk sb (cl [.slice (some ⟨lb, 0, none⟩) xs.length lcap, p1, p2, p3, p4] 75) :: blk lb (cl (xs.flatMap lvCells ++ rest) 80) :: F)
    (fun y => y < xs.length ∧ topF (xs.map (·.y)) = topG (xs.map (·.y)) y) (fun y => y) (xs.length - 1) ⟨by omega, htf⟩ (by exact ⟨rfl, rfl, trivial⟩) (Ent.refl _) ?_
  rintro i ⟨hi, ht⟩
  cases i with
  | zero =>
    repeat (first | refine wZ ?_ | intro b)
    rw [decide_eq_false (by omega : ¬ (0 : Int) < ((0 : Nat) : Int))]
    repeat (first | refine wZ ?_ | intro b)
    exact e_ret1 _ rfl rfl ⟨by rw [ht]; rfl, rfl⟩ (Ent.refl _)
  | succ i =>
    obtain ⟨x, hx⟩ : ∃ x, xs[i + 1]? = some x := ⟨xs[i + 1], List.getElem?_eq_getElem hi⟩
    have hx2 : (xs.map (·.y))[i + 1]? = some x.y := by rw [List.getElem?_map, hx]; rfl
    rw [topG_step hx2] at ht
    obtain ⟨⟨kd, off, bytes, wrote, shadow, levels⟩, va, vc, wa, wc, la, lc⟩ := x
    dsimp only at ht
    repeat (first | refine wZ ?_ | intro b)
    rw [decide_eq_true (by omega : (0 : Int) < ((i + 1 : Nat) : Int))]
    repeat (first | refine wZ ?_ | intro b)
    refine l_plain rfl ?_
    apply s_val rfl rfl
    · exact RunS.v (r_index (i := i + 1) rfl rfl rfl hi)
    repeat (first | refine wZ ?_ | intro b)
    refine l_plain rfl ?_
    apply s_val rfl rfl
    · exact r_load rfl rfl (rd_blk 1 rfl (lc_get hx 0 (by decide)))
    cases kd with
    | roll =>
      repeat (first | refine wZ ?_ | intro b)
      exact e_ret1 _ rfl rfl ⟨by rw [ht]; rfl, rfl⟩ (Ent.refl _)
    | inner =>
      repeat (first | refine wZ ?_ | intro b)
      exact at_intro i ⟨⟨by omega, ht⟩, by omega⟩ ⟨rfl, rfl, trivial⟩ (Ent.refl _)
    | base =>
      repeat (first | refine wZ ?_ | intro b)
      exact at_intro i ⟨⟨by omega, ht⟩, by omega⟩ ⟨rfl, rfl, trivial⟩ (Ent.refl _)
theorem beneath_c (hxl : xs.length ≤ 1000) (k : Nat) (hk : k < xs.length) (hk0 : 0 < k) :
    Ct Tryz.prog 51 #[.pointer (some ⟨sb, 0, none⟩), .int .i64 (k : Nat)] [blk sb (cl [.slice (some ⟨lb, 0, none⟩) xs.length lcap, p1, p2, p3, p4] 75), blk lb (cl (xs.flatMap lvCells ++ rest) 80)]
      (fun v B => v = .bool (benF (xs.map (·.y)) k) ∧ B = [blk sb (cl [.slice (some ⟨lb, 0, none⟩) xs.length lcap, p1, p2, p3, p4] 75), blk lb (cl (xs.flatMap lvCells ++ rest) 80)]) nev := by
  refine Ct.of Tryz.func51 rfl Tryz.ntmps51 rfl fun m F => ?_
  repeat (first | refine wZ ?_ | intro b)
  refine c_loop (α := Nat) (fun y => [(5, .int .i64 (y : Nat)), (0, .pointer (some ⟨sb, 0, none⟩)), (1, .int .i64 (k : Nat))]) (fun y => blk sb (cl [.slice (some ⟨lb, 0, none⟩) xs.length lcap, p1, p2, p3, p4] 75) :: blk lb (cl (xs.flatMap lvCells ++ rest) 80) :: F)
    (fun y => 1 ≤ y ∧ y ≤ k ∧ benF (xs.map (·.y)) k = benG (xs.map (·.y)) y (k - y)) (fun y => k - y) 1 ⟨Nat.le_refl _, by omega, rfl⟩ (by exact ⟨rfl, rfl, rfl, trivial⟩) (Ent.refl _) ?_
  rintro i ⟨hi0, hi, ht⟩
  by_cases hlt : i < k
  · obtain ⟨x, hx⟩ : ∃ x, xs[i]? = some x := ⟨xs[i], List.getElem?_eq_getElem (by omega)⟩
    have hx2 : (xs.map (·.y))[i]? = some x.y := by rw [List.getElem?_map, hx]; rfl
    rw [show k - i = (k - (i + 1)) + 1 from by omega, benG, hx2] at ht
    obtain ⟨⟨kd, off, bytes, wrote, shadow, levels⟩, va, vc, wa, wc, la, lc⟩ := x
    dsimp only at ht
    repeat (first | refine wZ ?_ | intro b)
    rw [decide_eq_true (by omega : (i : Int) < (k : Int))]
    repeat (first | refine wZ ?_ | intro b)
    refine l_plain rfl ?_
    apply s_val rfl rfl
    · exact RunS.v (r_index (i := i) rfl rfl rfl (by omega))
    repeat (first | refine wZ ?_ | intro b)
    refine l_plain rfl ?_
    apply s_val rfl rfl
    · exact r_load rfl rfl (rd_blk 1 rfl (lc_get hx 0 (by decide)))
    cases kd with
    | roll =>
      repeat (first | refine wZ ?_ | intro b)
      exact e_ret1 _ rfl rfl ⟨by rw [ht]; rfl, rfl⟩ (Ent.refl _)
    | inner =>
      repeat (first | refine wZ ?_ | intro b)
      exact at_intro (i + 1) ⟨⟨by omega, hlt, ht⟩, by omega⟩ ⟨rfl, rfl, rfl, trivial⟩ (Ent.refl _)
    | base =>
      repeat (first | refine wZ ?_ | intro b)
      exact at_intro (i + 1) ⟨⟨by omega, hlt, ht⟩, by omega⟩ ⟨rfl, rfl, rfl, trivial⟩ (Ent.refl _)
  · obtain rfl : i = k := by omega
    repeat (first | refine wZ ?_ | intro b)
    rw [decide_eq_false (by omega : ¬ (i : Int) < (i : Int))]
    repeat (first | refine wZ ?_ | intro b)
    rw [Nat.sub_self] at ht
    exact e_ret1 _ rfl rfl ⟨by rw [ht]; rfl, rfl⟩ (Ent.refl _)
set_option maxHeartbeats 4000000 in
theorem short_c (hxl : xs.length ≤ 1000) (h0 : 0 < xs.length) (hok : ∀ x ∈ xs, LVok Z x) (hB : StB xs) :
    Ct Tryz.prog 37 #[.pointer (some ⟨sb, 0, none⟩)] [blk sb (cl [.slice (some ⟨lb, 0, none⟩) xs.length lcap, p1, p2, p3, p4] 75), blk lb (cl (xs.flatMap lvCells ++ rest) 80)]
      (fun v B => v = .bool (shortF (xs.map (·.y))) ∧ B = [blk sb (cl [.slice (some ⟨lb, 0, none⟩) xs.length lcap, p1, p2, p3, p4] 75), blk lb (cl (xs.flatMap lvCells ++ rest) 80)]) nev := by
  refine Ct.of Tryz.func37 rfl Tryz.ntmps37 rfl fun m F => ?_
  repeat (first | refine wZ ?_ | intro b)
  refine c_loop (α := Nat) (fun y => [(3, .int .i64 (y : Nat)), (0, .pointer (some ⟨sb, 0, none⟩))]) (fun y => blk sb (cl [.slice (some ⟨lb, 0, none⟩) xs.length lcap, p1, p2, p3, p4] 75) :: blk lb (cl (xs.flatMap lvCells ++ rest) 80) :: F)
    (fun y => 1 ≤ y ∧ y ≤ xs.length ∧ shortF (xs.map (·.y)) = shortG (xs.map (·.y)) y (xs.length - y)) (fun y => xs.length - y) 1 ⟨Nat.le_refl _, by omega, by unfold shortF; rw [List.length_map]⟩ (by exact ⟨rfl, rfl, trivial⟩) (Ent.refl _) ?_
  rintro i ⟨hi0, hi, ht⟩
  by_cases hlt : i < xs.length
  · obtain ⟨x, hx⟩ : ∃ x, xs[i]? = some x := ⟨xs[i], List.getElem?_eq_getElem (by omega)⟩
    have hx2 : (xs.map (·.y))[i]? = some x.y := by rw [List.getElem?_map, hx]; rfl
    have hs := size_c (p1 := p1) (p2 := p2) (p3 := p3) (p4 := p4) (rest := rest) (sb := sb) (lb := lb) (lcap := lcap) hxl hok hB i hlt
    rw [show xs.length - i = (xs.length - (i + 1)) + 1 from by omega, shortG, shortA, hx2] at ht
    generalize sizeF (xs.map (·.y)) i = q at hs ht
    obtain ⟨⟨kd, off, bytes, wrote, shadow, levels⟩, va, vc, wa, wc, la, lc⟩ := x
    dsimp only at ht
    repeat (first | refine wZ ?_ | intro b)
    rw [decide_eq_true (by omega : (i : Int) < (xs.length : Int))]
    repeat (first | refine wZ ?_ | intro b)
    refine l_plain rfl ?_
    apply s_val rfl rfl
    · exact RunS.v (r_index (i := i) rfl rfl rfl (by omega))
    repeat (first | refine wZ ?_ | intro b)
    refine l_plain rfl ?_
    apply s_val rfl rfl
    · exact r_load rfl rfl (rd_blk 1 rfl (lc_get hx 0 (by decide)))
    cases kd with
    | roll =>
      repeat (first | refine wZ ?_ | intro b)
      exact at_intro (i + 1) ⟨⟨by omega, hlt, ht⟩, by omega⟩ ⟨rfl, rfl, trivial⟩ (Ent.refl _)
    | base =>
      repeat (first | refine wZ ?_ | intro b)
      exact at_intro (i + 1) ⟨⟨by omega, hlt, ht⟩, by omega⟩ ⟨rfl, rfl, trivial⟩ (Ent.refl _)
    | inner =>
      repeat (first | refine wZ ?_ | intro b)
      refine l_yes rfl rfl rfl (s_call rfl rfl hs [0, 0] rfl ?_ (fun _ _ h => h.elim))
      rintro _ _ ⟨rfl, rfl⟩
      repeat (first | refine wZ ?_ | intro b)
      by_cases hq : q < 0
      · rw [decide_eq_true hq] at ht ⊢
        repeat (first | refine wZ ?_ | intro b)
        exact e_ret1 _ rfl rfl ⟨by rw [ht]; rfl, rfl⟩ (Ent.refl _)
      · rw [decide_eq_false hq] at ht ⊢
        repeat (first | refine wZ ?_ | intro b)
        exact at_intro (i + 1) ⟨⟨by omega, hlt, ht⟩, by omega⟩ ⟨rfl, rfl, trivial⟩ (Ent.refl _)
  · obtain rfl : i = xs.length := by omega
    repeat (first | refine wZ ?_ | intro b)
    rw [decide_eq_false (by omega : ¬ ((xs.length : Nat) : Int) < ((xs.length : Nat) : Int))]
    repeat (first | refine wZ ?_ | intro b)
    rw [Nat.sub_self] at ht
    exact e_ret1 _ rfl rfl ⟨by rw [ht]; rfl, rfl⟩ (Ent.refl _)
end
end Go.Proofs.YtfebpbflpdppiaaGreatDoor
namespace Go.Proofs.YtfebpbflpdppiaaGreatDoor
open Go Go.Sl
set_option maxRecDepth 100000
/-- what is behind the end: zeros, or bytes of which nothing is known -/
def grF (p : List Int) (sh n : Nat) : List Int := p ++ (List.range (n - p.length)).map fun j => if p.length + j < sh then -1 else 0
def grM (p : List Int) (sh n : Nat) : Bool := decide (p.length < n) && decide (p.length < sh)
theorem grF_length (p : List Int) (sh n : Nat) : (grF p sh n).length = max p.length n := by simp [grF]; omega
theorem grF_step (p : List Int) (sh i : Nat) (h : p.length ≤ i) : grF p sh (i + 1) = grF p sh i ++ [if i < sh then -1 else 0] := by
  unfold grF
  rw [show i + 1 - p.length = (i - p.length) + 1 from by omega, List.range_succ, List.map_append, List.append_assoc]
  congr 2
  simp only [List.map_cons, List.map_nil]
  rw [show p.length + (i - p.length) = i from by omega]
theorem grF_none (p : List Int) (sh n : Nat) (h : n ≤ p.length) : grF p sh n = p := by
  unfold grF
  rw [show n - p.length = 0 from by omega]
  simp
section
variable {pre post : List Value} {c0 c1 c2 c3 c4 c5 : Value} {k : Nat}
theorem lw_get (hp : pre.length = k * 6) (j : Nat) (hj : j < 6) : (pre ++ ([c0, c1, c2, c3, c4, c5] ++ post))[0 + k * 6 + j]? = [c0, c1, c2, c3, c4, c5][j]? := by
  rw [List.getElem?_append_right (by omega), List.getElem?_append_left (by simp; omega), hp, show 0 + k * 6 + j - k * 6 = j from by omega]
theorem lw_set (hp : pre.length = k * 6) (j : Nat) (hj : j < 6) (v : Value) : (pre ++ ([c0, c1, c2, c3, c4, c5] ++ post)).set (0 + k * 6 + j) v = pre ++ ([c0, c1, c2, c3, c4, c5].set j v ++ post) := by
  rw [List.set_append_right _ _ (by omega), List.set_append_left _ _ (by simp; omega), hp, show 0 + k * 6 + j - k * 6 = j from by omega]
theorem lw_lt (hp : pre.length = k * 6) (j : Nat) (hj : j < 6) : Nat.blt (0 + k * 6 + j) (pre ++ ([c0, c1, c2, c3, c4, c5] ++ post)).length = true := blt_of (by simp; omega)
end
attribute [local irreducible] wpList Code.wp Exit.then Exit.inBlock bodyPost RunS RunV G St Ct Sat Ent At Rd GQ QL wpAny wpOp wpQuiet slP Sl.ex sep
section
variable {lb k : Nat} {pre post : List Value} {c0 c1 c3 c5 : Value}
set_option maxHeartbeats 4000000 in
theorem grown_c (hp : pre.length = k * 6) (_hk : k ≤ 1000) (p : List Int) (a : Option Addr) (c sh n : Nat) (hn : n ≤ 10000000) (_hs : sh ≤ 10000000) (_hpl : p.length ≤ 10000000) :
    Ct Tryz.prog 47 #[.pointer (some ⟨lb, 0 + k * 6, none⟩), .int .i64 (n : Nat)] [blk lb (cl (pre ++ ([c0, c1, .slice a p.length c, c3, .int .i64 (sh : Nat), c5] ++ post)) 80), slP (.slice a p.length c) 123 1 (i16s p)]
      (fun v B => ∃ a' c', v = .bool (grM p sh n) ∧ B = [blk lb (cl (pre ++ ([c0, c1, .slice a' (max p.length n) c', c3, .int .i64 (sh : Nat), c5] ++ post)) 80), slP (.slice a' (max p.length n) c') 123 1 (i16s (grF p sh n))]) nev := by
  refine Ct.of Tryz.func47 rfl Tryz.ntmps47 rfl fun m F => ?_
  repeat (first | refine wZ ?_ | intro b)
  refine l_plain rfl ?_
  apply s_val rfl rfl
  · exact r_load rfl rfl (rd_blk 0 rfl (lw_get hp 2 (by decide)))
  repeat (first | refine wZ ?_ | intro b)
  refine c_loop (α := Nat × Option Addr × Nat) (fun y => [(5, .int .i64 (y.1 : Nat)), (4, .bool (grM p sh y.1)), (0, .pointer (some ⟨lb, 0 + k * 6, none⟩)), (1, .int .i64 (n : Nat))])
    (fun y => blk lb (cl (pre ++ ([c0, c1, .slice y.2.1 y.1 y.2.2, c3, .int .i64 (sh : Nat), c5] ++ post)) 80) :: slP (.slice y.2.1 y.1 y.2.2) 123 1 (i16s (grF p sh y.1)) :: F) (fun y => p.length ≤ y.1 ∧ y.1 ≤ max p.length n) (fun y => max p.length n - y.1) (p.length, a, c)
    ⟨Nat.le_refl _, by dsimp only; omega⟩ (by dsimp only; unfold grM; rw [decide_eq_false (by omega : ¬ p.length < p.length)]; exact ⟨rfl, rfl, rfl, rfl, trivial⟩) (by dsimp only; rw [grF_none _ _ _ (Nat.le_refl _)]; exact Ent.refl _) ?_
  rintro ⟨i, a', c'⟩ ⟨hi1, hi2⟩
  dsimp only at hi1 hi2 ⊢
  by_cases hlt : i < n
  · repeat (first | refine wZ ?_ | intro b)
    rw [decide_eq_true (by omega : (i : Int) < (n : Int))]
    repeat (first | refine wZ ?_ | intro b)
    refine l_plain rfl ?_
    apply s_val (v := .int .i64 (sh : Nat)) rfl rfl
    · exact r_load rfl rfl (rd_blk 0 rfl (lw_get hp 4 (by decide)))
    repeat (first | refine wZ ?_ | intro b)
    refine c_mid (α := Unit) (fun _ => [(6, .int .i16 (if i < sh then -1 else 0)), (4, .bool (grM p sh (i + 1))), (5, .int .i64 (i : Nat)), (0, .pointer (some ⟨lb, 0 + k * 6, none⟩)), (1, .int .i64 (n : Nat))])
      (fun _ => blk lb (cl (pre ++ ([c0, c1, .slice a' i c', c3, .int .i64 (sh : Nat), c5] ++ post)) 80) :: slP (.slice a' i c') 123 1 (i16s (grF p sh i)) :: F) (fun _ => True) ?_ ?_
    · by_cases hsh : i < sh
      · rw [decide_eq_true (by omega : (i : Int) < (sh : Int)), if_pos hsh]
        have e1 : grM p sh (i + 1) = true := by unfold grM; rw [decide_eq_true (by omega : p.length < i + 1), decide_eq_true (by omega : p.length < sh)]; rfl
        rw [e1]
        repeat (first | refine wZ ?_ | intro b)
        exact at_intro () trivial ⟨rfl, rfl, rfl, rfl, rfl, trivial⟩ (Ent.refl _)
      · rw [decide_eq_false (by omega : ¬ (i : Int) < (sh : Int)), if_neg hsh]
        have e1 : grM p sh (i + 1) = grM p sh i := by
          unfold grM
          by_cases h1 : p.length < i
          · rw [decide_eq_true h1, decide_eq_true (by omega : p.length < i + 1)]
          · rw [decide_eq_false (by omega : ¬ p.length < sh), Bool.and_false, Bool.and_false]
        rw [e1]
        repeat (first | refine wZ ?_ | intro b)
        exact at_intro () trivial ⟨rfl, rfl, rfl, rfl, rfl, trivial⟩ (Ent.refl _)
    rintro _ _
    generalize hv : (if i < sh then (-1 : Int) else 0) = v
    repeat (first | refine wZ ?_ | intro b)
    refine l_plain rfl ?_
    apply s_val (v := .slice a' i c') rfl rfl
    · exact r_load rfl rfl (rd_blk 0 rfl (lw_get hp 2 (by decide)))
    repeat (first | refine wZ ?_ | intro b)
    refine l_plain rfl (s_append (i := 2) rfl rfl rfl (Src.some _ _ _ _ _ rfl (rdn_all 0 rfl)) rfl rfl (by rw [i16s_length, grF_length]; omega) rfl (by omega) (by simp only [maxLen]; omega) rfl ?_)
    intro a2 c2
    repeat (first | refine wZ ?_ | intro b)
    refine l_plain rfl ?_
    refine s_store (i := 2) rfl rfl rfl rfl rfl rfl (lw_lt hp 2 (by decide)) ?_
    rw [lw_set hp 2 (by decide)]
    repeat (first | refine wZ ?_ | intro b)
    refine at_intro (i + 1, a2, c2) ⟨⟨by dsimp only; omega, by dsimp only; omega⟩, by dsimp only; omega⟩ ⟨rfl, rfl, rfl, rfl, trivial⟩ ?_
    dsimp only
    rw [grF_step p sh i hi1, hv, ← i16s_snoc]
    exact arr_ent 1 [0, 0] _
  · repeat (first | refine wZ ?_ | intro b)
    rw [decide_eq_false (by omega : ¬ (i : Int) < (n : Int))]
    obtain rfl : i = max p.length n := by omega
    repeat (first | refine wZ ?_ | intro b)
    have e1 : grM p sh (max p.length n) = grM p sh n := by
      unfold grM
      by_cases h1 : p.length < n
      · rw [decide_eq_true h1, decide_eq_true (by omega : p.length < max p.length n)]
      · rw [decide_eq_false h1, decide_eq_false (by omega : ¬ p.length < max p.length n)]
    have e2 : grF p sh (max p.length n) = grF p sh n := by
      unfold grF
      rw [show max p.length n - p.length = n - p.length from by omega]
    rw [e1, e2]
    exact e_ret1 _ rfl rfl ⟨a', c', rfl, rfl⟩ (Ent.refl _)
end
end Go.Proofs.YtfebpbflpdppiaaGreatDoor
namespace Go.Proofs.YtfebpbflpdppiaaGreatDoor
open Go Go.Sl
set_option maxRecDepth 100000
def whatS : Bool → ByteArray
  | true => sWrite
  | false => sTrunc
/-- a layer of a transaction that is open, changed -/
def chL (x : Ly) (wr : Bool) (o : Nat) (b : List Int) : Ly :=
  { x with
    bytes := if wr then wrF (grF x.bytes x.shadow (o + b.length)) o b else cutF (grF x.bytes (if o < x.bytes.length then max x.shadow x.bytes.length else x.shadow) o) o
    wrote := if wr then mkF x.wrote o b.length else x.wrote.take o
    shadow := if wr then x.shadow else if o < x.bytes.length then max x.shadow x.bytes.length else x.shadow }
def chM (x : Ly) (wr : Bool) (o : Nat) (b : List Int) : Bool := if wr then grM x.bytes x.shadow (o + b.length) else grM x.bytes (if o < x.bytes.length then max x.shadow x.bytes.length else x.shadow) o
def chB0 (x : Ly) (wr : Bool) (o : Nat) (b : List Int) : Ly := { x with bytes := if wr then wrF x.bytes o b else cutF x.bytes o }
/-- a change at a layer: the layers behind it, whether bytes are masked, the error -/
def chF (l : List Ly) : Nat → Bool → Nat → List Int → List Ly × Bool × Nat
  | 0, wr, o, b => match l[0]? with
    | some x => (l.set 0 (chB0 x wr o b), false, 0)
    | none => (l, false, 0)
  | k + 1, wr, o, b => match l[k + 1]? with
    | some x => match x.kd with
      | .roll => match x.levels with
        | [] => (l, false, 3)
        | _ => (l.set (k + 1) (chL x wr o b), chM x wr o b, 0)
      | _ => chF l k wr (o + x.off) b
    | none => (l, false, 0)
def Ly.small (x : Ly) : Prop := x.bytes.length ≤ 1000000 ∧ x.wrote.length ≤ 1000000 ∧ x.off ≤ 1000000 ∧ x.shadow ≤ 1000000 ∧ x.levels.length ≤ 1000
def LV.lac (x : LV) : Option Addr × Nat := (x.la, x.lc)
theorem LVok.small {Z : HP} {x : LV} (h : LVok Z x) : x.y.small := ⟨h.bn, h.wn, h.on, h.sn, h.ln⟩
theorem LVok.ent {Z Z' : HP} {x : LV} (h : LVok Z x) (e : Ent [Z'] [Z]) : LVok Z' x := ⟨h.b.ent e, h.bc, h.w.ent e, h.wc, h.bn, h.wn, h.on, h.sn, h.ln⟩
theorem split_at {α : Type} : ∀ {l : List α} {k : Nat} {x : α}, l[k]? = some x → ∃ l1 l2, l = l1 ++ x :: l2 ∧ l1.length = k
  | [], k, x, h => by simp at h
  | y :: l, 0, x, h => by
    simp at h
    subst h
    exact ⟨[], l, rfl, rfl⟩
  | y :: l, k + 1, x, h => by
    simp only [List.getElem?_cons_succ] at h
    obtain ⟨l1, l2, rfl, h2⟩ := split_at h
    exact ⟨y :: l1, l2, rfl, by simp [h2]⟩
theorem lv_split (xs1 xs2 : List LV) (x : LV) (rest : List Value) : (xs1 ++ x :: xs2).flatMap lvCells ++ rest = xs1.flatMap lvCells ++ ([.string x.y.kd.s, .int .i64 (x.y.off : Nat), .slice x.va x.y.bytes.length x.vc, .slice x.wa x.y.wrote.length x.wc, .int .i64 (x.y.shadow : Nat), .slice x.la x.y.levels.length x.lc] ++ (xs2.flatMap lvCells ++ rest)) := by
  simp only [List.flatMap_append, List.flatMap_cons, List.append_assoc]
  rfl
theorem pre_len {xs1 : List LV} {k : Nat} (h : xs1.length = k) : (xs1.flatMap lvCells).length = k * 6 := by rw [flat_len lvCells 6 (fun _ => rfl), h]
theorem set_split {α : Type} {l1 l2 : List α} {x y : α} {k : Nat} (h : l1.length = k) : (l1 ++ x :: l2).set k y = l1 ++ y :: l2 := by
  subst h
  simp
section
variable {A B Z : HP}
theorem sep2_l : Ent [sep [A, Z]] [A] := (sep_open [A, Z] []).trans (Ent.left [A] [Z])
theorem sep2_r : Ent [sep [A, Z]] [Z] := (sep_open [A, Z] []).trans Ent.drop
end
attribute [local irreducible] wpList Code.wp Exit.then Exit.inBlock bodyPost RunS RunV G St Ct Sat Ent At Rd GQ QL wpAny wpOp wpQuiet slP Sl.ex sep
section
variable {Z : HP} {sb lb lcap : Nat} {p1 p2 p3 : Value} {ma : Bool} {rest : List Value} {xs : List LV}
/-- what stands behind a change -/
def ChR (Z : HP) (sb lb lcap : Nat) (p1 p2 p3 : Value) (ma : Bool) (rest : List Value) (n : Nat) (LL : List (Option Addr × Nat)) (r : List Ly × Bool × Nat) (v : Value) (B : List HP) : Prop :=
  v = .int .i64 (r.2.2 : Nat) ∧ ∃ (xs' : List LV) (Z' : HP), xs'.map (·.y) = r.1 ∧ (xs'.length = n ∧ xs'.map LV.lac = LL) ∧ (∀ x ∈ xs', LVok Z' x) ∧ Ent [Z'] [Z] ∧ B = [blk sb (cl [.slice (some ⟨lb, 0, none⟩) n lcap, p1, p2, p3, .bool (r.2.1 || ma)] 75), blk lb (cl (xs'.flatMap lvCells ++ rest) 80), Z']
set_option maxHeartbeats 8000000 in
theorem chB_c (hok : ∀ x ∈ xs, LVok Z x) (x : LV) (hx : xs[0]? = some x) (wr : Bool) (o : Nat) (b : List Int) (ba : Option Addr) (bc : Nat) (hb : Src [Z] 1 (.slice ba b.length bc) b.length (i16s b)) (hbl : b.length ≤ 1000000) (ho : o ≤ 9000000) (hres : (chB0 x.y wr o b).small) :
    Ct Tryz.prog 39 #[.pointer (some ⟨sb, 0, none⟩), .int .i64 (0 : Nat), .string (whatS wr), .int .i64 (o : Nat), .slice ba b.length bc] [blk sb (cl [.slice (some ⟨lb, 0, none⟩) xs.length lcap, p1, p2, p3, .bool ma] 75), blk lb (cl (xs.flatMap lvCells ++ rest) 80), Z]
      (ChR Z sb lb lcap p1 p2 p3 ma rest xs.length (xs.map LV.lac) ((xs.map (·.y)).set 0 (chB0 x.y wr o b), false, 0)) nev := by
  have hxo := hok x (List.mem_of_getElem? hx)
  have h0 : 0 < xs.length := (List.getElem?_eq_some_iff.1 hx).1
  obtain ⟨xs1, xs2, rfl, hxs1⟩ := split_at hx
  have hpre := pre_len hxs1
  have hset : (xs1 ++ x :: xs2).map (·.y) = xs1.map (·.y) ++ x.y :: xs2.map (·.y) := by simp
  rw [hset, set_split (by simpa using hxs1), lv_split]
  have hkeep : ∀ x' : LV, ∀ Z', Ent [Z'] [Z] → LVok Z' x' → ∀ y ∈ xs1 ++ x' :: xs2, LVok Z' y := fun x' Z' e h y hy => by
    rcases List.mem_append.1 hy with h1 | h1
    · exact (hok y (by simp [h1])).ent e
    · rcases List.mem_cons.1 h1 with rfl | h1
      · exact h
      · exact (hok y (by simp [h1])).ent e
  generalize hpr : xs1.flatMap lvCells = pre at hpre ⊢
  generalize hpo : xs2.flatMap lvCells ++ rest = post
  refine Ct.of Tryz.func39 rfl Tryz.ntmps39 rfl fun m F => ?_
  repeat (first | refine wZ ?_ | intro b)
  refine l_plain rfl ?_
  apply s_val rfl rfl
  · exact RunS.v (r_index (i := 0) rfl rfl rfl h0)
  repeat (first | refine wZ ?_ | intro b)
  rw [decide_eq_false (by omega : ¬ (0 : Int) < ((0 : Nat) : Int))]
  obtain ⟨⟨kd, off, bytes, wrote, shadow, levels⟩, va, vc, wa, wc, la, lc⟩ := x
  cases wr with
  | true =>
    repeat (first | refine wZ ?_ | intro b)
    refine l_plain rfl ?_
    apply s_val (v := .slice va bytes.length vc) rfl rfl
    · exact r_load rfl rfl (rd_blk 1 rfl (lw_get hpre 2 (by decide)))
    repeat (first | refine wZ ?_ | intro b)
    refine l_plain rfl (s_call rfl rfl (wrote_c bytes b va ba bytes.length vc b.length bc o hxo.b hb (by have := hxo.bn; dsimp only at this; omega) (by omega) (by omega)) [2] rfl ?_ (fun _ _ h => h.elim))
    rintro _ _ ⟨a', c', rfl, rfl⟩
    repeat (first | refine wZ ?_ | intro b)
    refine l_plain rfl ?_
    refine s_store (i := 3) rfl rfl rfl rfl rfl rfl (lw_lt hpre 2 (by decide)) ?_
    rw [lw_set hpre 2 (by decide)]
    repeat (first | refine wZ ?_ | intro b)
    refine G.ent (Ent.trans (arr_ent 0 [2] _) (Ent.refl _)) ?_
    refine src_sl1 fun hs1 hc1 => ?_
    have hs2 : Src [sep [slP (.slice a' (max bytes.length (o + b.length)) c') 123 1 (i16s (wrF bytes o b)), Z]] 1 (.slice a' (wrF bytes o b).length c') (wrF bytes o b).length (i16s (wrF bytes o b)) := by
      rw [wrF_length bytes o b]
      exact hs1.ent sep2_l
    have hc2 : (wrF bytes o b).length ≤ c' := by
      rw [wrF_length bytes o b]
      exact hc1
    refine e_ret1 _ rfl rfl ⟨rfl, xs1 ++ ⟨⟨kd, off, wrF bytes o b, wrote, shadow, levels⟩, a', c', wa, wc, la, lc⟩ :: xs2, sep [slP (.slice a' (max bytes.length (o + b.length)) c') 123 1 (i16s (wrF bytes o b)), Z], by simp [chB0], by simp [LV.lac], hkeep _ _ sep2_r ⟨hs2, hc2, hxo.w.ent sep2_r, hxo.wc, hres.1, hxo.wn, hxo.on, hxo.sn, hxo.ln⟩, sep2_r, rfl⟩ ?_
    rw [lv_split, hpr, hpo]
    dsimp only
    rw [wrF_length bytes o b]
    exact Ent.trans (arr_ent 0 [3, 1, 0, 0] _) (Ent.append [_, _] (sep_shut [_, _] F))
  | false =>
    repeat (first | refine wZ ?_ | intro b)
    refine l_plain rfl ?_
    apply s_val (v := .slice va bytes.length vc) rfl rfl
    · exact r_load rfl rfl (rd_blk 1 rfl (lw_get hpre 2 (by decide)))
    repeat (first | refine wZ ?_ | intro b)
    refine l_plain rfl (s_call rfl rfl (cut_c bytes va bytes.length vc o hxo.b hxo.bc (by have := hxo.bn; dsimp only at this; omega) (by omega)) [2] rfl ?_ (fun _ _ h => h.elim))
    rintro _ _ ⟨a', c', rfl, rfl⟩
    repeat (first | refine wZ ?_ | intro b)
    refine l_plain rfl ?_
    refine s_store (i := 3) rfl rfl rfl rfl rfl rfl (lw_lt hpre 2 (by decide)) ?_
    rw [lw_set hpre 2 (by decide)]
    repeat (first | refine wZ ?_ | intro b)
    refine G.ent (Ent.trans (arr_ent 0 [2] _) (Ent.refl _)) ?_
    refine src_sl1 fun hs1 hc1 => ?_
    have hs2 : Src [sep [slP (.slice a' (o) c') 123 1 (i16s (cutF bytes o)), Z]] 1 (.slice a' (cutF bytes o).length c') (cutF bytes o).length (i16s (cutF bytes o)) := by
      rw [cutF_length bytes o]
      exact hs1.ent sep2_l
    have hc2 : (cutF bytes o).length ≤ c' := by
      rw [cutF_length bytes o]
      exact hc1
    refine e_ret1 _ rfl rfl ⟨rfl, xs1 ++ ⟨⟨kd, off, cutF bytes o, wrote, shadow, levels⟩, a', c', wa, wc, la, lc⟩ :: xs2, sep [slP (.slice a' (o) c') 123 1 (i16s (cutF bytes o)), Z], by simp [chB0], by simp [LV.lac], hkeep _ _ sep2_r ⟨hs2, hc2, hxo.w.ent sep2_r, hxo.wc, hres.1, hxo.wn, hxo.on, hxo.sn, hxo.ln⟩, sep2_r, rfl⟩ ?_
    rw [lv_split, hpr, hpo]
    dsimp only
    rw [cutF_length bytes o]
    exact Ent.trans (arr_ent 0 [3, 1, 0, 0] _) (Ent.append [_, _] (sep_shut [_, _] F))
end
end Go.Proofs.YtfebpbflpdppiaaGreatDoor
namespace Go.Proofs.YtfebpbflpdppiaaGreatDoor
open Go Go.Sl
set_option maxRecDepth 100000
attribute [local irreducible] wpList Code.wp Exit.then Exit.inBlock bodyPost RunS RunV G St Ct Sat Ent At Rd GQ QL wpAny wpOp wpQuiet slP Sl.ex sep
section
variable {Z : HP} {sb lb lcap : Nat} {p1 p2 p3 : Value} {ma : Bool} {rest : List Value} {xs : List LV}
set_option maxHeartbeats 16000000 in
theorem chW_c (hxl : xs.length ≤ 1000) (hok : ∀ x ∈ xs, LVok Z x) (k : Nat) (x : LV) (hx : xs[k + 1]? = some x) (hkd : x.y.kd = .roll) (hlv : x.y.levels ≠ []) (o : Nat) (bl : List Int) (ba : Option Addr) (bc : Nat) (hb : Src [Z] 1 (.slice ba bl.length bc) bl.length (i16s bl)) (hbl : bl.length ≤ 1000000) (ho : o ≤ 8000000) (hres : (chL x.y true o bl).small) :
    Ct Tryz.prog 39 #[.pointer (some ⟨sb, 0, none⟩), .int .i64 (k + 1 : Nat), .string (whatS true), .int .i64 (o : Nat), .slice ba bl.length bc] [blk sb (cl [.slice (some ⟨lb, 0, none⟩) xs.length lcap, p1, p2, p3, .bool ma] 75), blk lb (cl (xs.flatMap lvCells ++ rest) 80), Z]
      (ChR Z sb lb lcap p1 p2 p3 ma rest xs.length (xs.map LV.lac) ((xs.map (·.y)).set (k + 1) (chL x.y true o bl), chM x.y true o bl, 0)) nev := by
  have hxo := hok x (List.mem_of_getElem? hx)
  have h0 : k + 1 < xs.length := (List.getElem?_eq_some_iff.1 hx).1
  obtain ⟨xs1, xs2, rfl, hxs1⟩ := split_at hx
  have hpre := pre_len hxs1
  have hset : (xs1 ++ x :: xs2).map (·.y) = xs1.map (·.y) ++ x.y :: xs2.map (·.y) := by simp
  rw [hset, set_split (by simpa using hxs1), lv_split]
  have hkeep : ∀ x' : LV, ∀ Z', Ent [Z'] [Z] → LVok Z' x' → ∀ y ∈ xs1 ++ x' :: xs2, LVok Z' y := fun x' Z' e h y hy => by
    rcases List.mem_append.1 hy with h1 | h1
    · exact (hok y (by simp [h1])).ent e
    · rcases List.mem_cons.1 h1 with rfl | h1
      · exact h
      · exact (hok y (by simp [h1])).ent e
  generalize hpr : xs1.flatMap lvCells = pre at hpre ⊢
  generalize hpo : xs2.flatMap lvCells ++ rest = post
  obtain ⟨⟨kd, off, bytes, wrote, shadow, levels⟩, va, vc, wa, wc, la, lc⟩ := x
  obtain ⟨hb1, hb2, hb3, hb4, hb5, hb6, hb7, hb8, hb9⟩ := hxo
  dsimp only at hkd hlv hb1 hb2 hb3 hb4 hb5 hb6 hb7 hb8 hb9 ⊢
  subst hkd
  have hll : 0 < levels.length := List.length_pos_iff.2 hlv
  refine Ct.of Tryz.func39 rfl Tryz.ntmps39 rfl fun m F => ?_
  repeat (first | refine wZ ?_ | intro b)
  refine l_plain rfl ?_
  apply s_val rfl rfl
  · exact RunS.v (r_index (i := k + 1) rfl rfl rfl h0)
  repeat (first | refine wZ ?_ | intro b)
  rw [decide_eq_true (by omega : (0 : Int) < ((k + 1 : Nat) : Int))]
  repeat (first | refine wZ ?_ | intro b)
  refine l_yes rfl rfl rfl ?_
  apply s_val (v := .string sRb) rfl rfl
  · exact r_load rfl rfl (rd_blk 1 rfl (lw_get hpre 0 (by decide)))
  repeat (first | refine wZ ?_ | intro b)
  rw [decide_eq_true (by omega : (0 : Int) < ((k + 1 : Nat) : Int))]
  repeat (first | refine wZ ?_ | intro b)
  refine l_yes rfl rfl rfl ?_
  apply s_val (v := .slice la levels.length lc) rfl rfl
  · exact r_load rfl rfl (rd_blk 1 rfl (lw_get hpre 5 (by decide)))
  repeat (first | refine wZ ?_ | intro b)
  rw [decide_eq_false (by omega : ¬ ((levels.length : Nat) : Int) = 0)]
  repeat (first | refine wZ ?_ | intro b)
  rw [decide_eq_true (by omega : (0 : Int) < ((k + 1 : Nat) : Int))]
  repeat (first | refine wZ ?_ | intro b)
  revert b; intro tb
  refine l_plain rfl ?_
  apply s_val (v := .slice va bytes.length vc) rfl rfl
  · exact r_load rfl rfl (rd_blk 2 rfl (lw_get hpre 2 (by decide)))
  refine G.ent (L' := slP (.slice (some ⟨tb, 0, none⟩) 0 0) 123 1 [] :: _) (slP_blk (k := 0) rfl (Nat.zero_le _)) ?_
  refine l_plain rfl (s_append (i := 0) rfl rfl rfl (RE hb1 3 rfl) rfl rfl rfl (i16s_one _) (by omega) (by simp only [maxLen]; omega) rfl ?_)
  intro a1 c1
  rw [List.nil_append, Nat.zero_add]
  repeat (first | refine wZ ?_ | intro b)
  refine l_plain rfl ?_
  refine s_store (i := 2) rfl rfl rfl rfl rfl rfl (lw_lt hpre 2 (by decide)) ?_
  rw [lw_set hpre 2 (by decide)]
  repeat (first | refine wZ ?_ | intro b)
  refine l_plain rfl (s_call rfl rfl (grown_c hpre (by omega) bytes a1 c1 shadow (o + bl.length) (by omega) (by omega) (by omega)) [0, 0] rfl ?_ (fun _ _ h => h.elim))
  rintro _ _ ⟨a2, c2, rfl, rfl⟩
  have hgl : (grF bytes shadow (o + bl.length)).length = max bytes.length (o + bl.length) := grF_length _ _ _
  have hcM : chM ⟨.roll, off, bytes, wrote, shadow, levels⟩ true o bl = grM bytes shadow (o + bl.length) := rfl
  rw [hcM]
  generalize hgm : grM bytes shadow (o + bl.length) = gm
  generalize hgg : grF bytes shadow (o + bl.length) = gg at hgl
  have hcL : chL ⟨.roll, off, bytes, wrote, shadow, levels⟩ true o bl = ⟨.roll, off, wrF gg o bl, mkF wrote o bl.length, shadow, levels⟩ := by unfold chL; simp only [if_true, hgg]
  rw [hcL] at hres ⊢
  cases gm
  all_goals
    repeat (first | refine wZ ?_ | intro b)
    refine l_plain rfl ?_
    apply s_val (v := .slice wa wrote.length wc) rfl rfl
    · exact r_load rfl rfl (rd_blk 1 rfl (lw_get hpre 3 (by decide)))
    repeat (first | refine wZ ?_ | intro b)
    refine l_plain rfl (s_call rfl rfl (marked_c wrote wa wrote.length wc o bl.length hb3 (by omega) (by omega) (by omega)) [3] rfl ?_ (fun _ _ h => h.elim))
    rintro _ _ ⟨a3, c3, rfl, rfl⟩
    repeat (first | refine wZ ?_ | intro b)
    refine l_plain rfl ?_
    refine s_store (i := 3) rfl rfl rfl rfl rfl rfl (lw_lt hpre 3 (by decide)) ?_
    rw [lw_set hpre 3 (by decide)]
    simp only [List.set_cons_succ, List.set_cons_zero]
    repeat (first | refine wZ ?_ | intro b)
    refine G.ent (Ent.trans (arr_ent 0 [4] _) (Ent.refl _)) ?_
    refine src_sl1 fun hg1 hgc1 => ?_
    refine G.ent (Ent.trans (arr_ent 0 [0, 1] _) (sep_shut [_, _] _)) ?_
    refine l_plain rfl ?_
    apply s_val (v := .slice a2 (max bytes.length (o + bl.length)) c2) rfl rfl
    · exact r_load rfl rfl (rd_blk 1 rfl (lw_get hpre 2 (by decide)))
    repeat (first | refine wZ ?_ | intro b)
    refine l_plain rfl (s_call rfl rfl (wrote_c gg bl a2 ba (max bytes.length (o + bl.length)) c2 bl.length bc o (hg1.ent sep2_l) (hb.ent sep2_r) (by omega) (by omega) (by omega)) [0] rfl ?_ (fun _ _ h => h.elim))
    rintro _ _ ⟨a4, c4, rfl, rfl⟩
    repeat (first | refine wZ ?_ | intro b)
    refine l_plain rfl ?_
    refine s_store (i := 2) rfl rfl rfl rfl rfl rfl (lw_lt hpre 2 (by decide)) ?_
    rw [lw_set hpre 2 (by decide)]
    repeat (first | refine wZ ?_ | intro b)
    refine G.ent (Ent.trans (arr_ent 0 [2] _) (Ent.refl _)) ?_
    refine src_sl1 fun hw1 hwc1 => ?_
    refine G.ent (Ent.trans (arr_ent 0 [3] _) (Ent.refl _)) ?_
    refine src_sl1 fun hm1 hmc1 => ?_
    have hwl : (wrF gg o bl).length = max (max bytes.length (o + bl.length)) (o + bl.length) := by rw [wrF_length, hgl]
    have hml : (mkF wrote o bl.length).length = max wrote.length (o + bl.length) := mkF_length _ _ _
    generalize hZ' : sep [slP (.slice a4 (max (max bytes.length (o + bl.length)) (o + bl.length)) c4) 123 1 (i16s (wrF gg o bl)), sep [slP (.slice a3 (max wrote.length (o + bl.length)) c3) 4 1 (bls (mkF wrote o bl.length)), sep [slP (.slice a2 (max bytes.length (o + bl.length)) c2) 123 1 (i16s gg), Z]]] = Z'
    have hZZ : Ent [Z'] [Z] := by rw [← hZ']; exact sep2_r.trans (sep2_r.trans sep2_r)
    have hw2 : Src [Z'] 1 (.slice a4 (wrF gg o bl).length c4) (wrF gg o bl).length (i16s (wrF gg o bl)) := by rw [hwl, ← hZ']; exact hw1.ent sep2_l
    have hm2 : Src [Z'] 1 (.slice a3 (mkF wrote o bl.length).length c3) (mkF wrote o bl.length).length (bls (mkF wrote o bl.length)) := by rw [hml, ← hZ']; exact (hm1.ent sep2_l).ent sep2_r
    refine e_ret1 _ rfl rfl ⟨rfl, xs1 ++ ⟨⟨.roll, off, wrF gg o bl, mkF wrote o bl.length, shadow, levels⟩, a4, c4, a3, c3, la, lc⟩ :: xs2, Z', by simp, by simp [LV.lac], hkeep _ _ hZZ ⟨hw2, by rw [hwl]; exact hwc1, hm2, by rw [hml]; exact hmc1, hres.1, hres.2.1, hb7, hres.2.2.2.1, hb9⟩, hZZ, rfl⟩ ?_
    rw [lv_split, hpr, hpo, ← hZ']
    dsimp only
    rw [hwl, hml]
    exact Ent.trans (arr_ent 0 [4, 2, 1, 0, 0] _) (Ent.append [_, _] ((Ent.cons (sep_shut [_, _] F)).trans (sep_shut [_, _] F)))
end
end Go.Proofs.YtfebpbflpdppiaaGreatDoor
