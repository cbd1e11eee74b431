/- The reference's steps: writes, deeds · The reference's steps, whatever they are · The reference's stacks: new ones · What is told, against what is to be told · The reference's judgement of a run. -/
import Derived.Test.YtfebpbflpdppiaaGreatDoorL18
namespace Go.Proofs.YtfebpbflpdppiaaGreatDoor
open Go Go.Sl
set_option maxRecDepth 100000
attribute [local irreducible] wpList Code.wp Exit.then Exit.inBlock bodyPost RunS RunV G St Ct Sat Ent At Rd GQ QL wpAny wpOp wpQuiet slP Sl.ex sep
section
variable {Z I : HP} {sb lb lcap pc lc : Nat} {pa la : Option Addr} {rest : List Value} {xs : List LV} {es : List LE} {s : SS}
set_option maxHeartbeats 8000000 in
theorem doWrite_c (hv : SV xs es Z la lc s) (hs : Sin s) (off n : Int) (ho : -1099511627776 ≤ off ∧ off ≤ 65536) (hn : -1099511627776 ≤ n ∧ n ≤ 65536) (bs : List UInt8) (da : Option Addr) (dc : Nat) (hd : Src [I] 1 (.slice da bs.length dc) bs.length (u8s bs)) (hbl : bs.length ≤ 131072) (hls : s.ls = false) (ho2 : ¬ off < -262144) (hn2 : ¬ n < -262144) (hsh : shortF s.ys = false) (hres : ∀ y ∈ (doW s off bs).1.ys, y.small) :
    Ct Tryz.prog 29 #[.pointer (some ⟨sb, 0, none⟩), .string sWrite, .int .i64 off, .int .i64 n, .slice da bs.length dc] (SH sb lb lcap rest xs es Z la lc pa pc s.pts s.ls s.vg s.ms ++ [I])
      (DoR Z I sb lb lcap rest xs.length (doW s off bs)) nev := by
  have hxl : xs.length = s.ys.length := by rw [← hv.ys, List.length_map]
  have hl0 : 0 < xs.length := by have := hs.l0; omega
  have hl1 : xs.length ≤ 1000 := by have := hs.l1; omega
  have hB : StB xs := fun k x hx => hs.bs k x.y (by rw [← hv.ys, List.getElem?_map, hx]; rfl)
  have hK : lastK s = xs.length - 1 := by unfold lastK; rw [hxl]
  have hsc := short_c (sb := sb) (lb := lb) (lcap := lcap) (rest := rest) (p1 := .slice pa s.pts.length pc) (p2 := .bool false) (p3 := .bool s.vg) (p4 := .bool s.ms) (xs := xs) hl1 hl0 hv.ok hB
  have hsz := size_c (sb := sb) (lb := lb) (lcap := lcap) (rest := rest) (p1 := .slice pa s.pts.length pc) (p2 := .bool false) (p3 := .bool s.vg) (p4 := .bool s.ms) (xs := xs) hl1 hv.ok hB (xs.length - 1) (by omega)
  have hsb := sizeF_bd hv.ok (lastK s)
  rw [hv.ys, hsh] at hsc
  rw [hv.ys, ← hK] at hsz
  rw [hv.ys] at hsb
  have hK9 : lastK s ≤ 999 := by omega
  unfold SH
  rw [hls]
  refine Ct.of Tryz.func29 rfl Tryz.ntmps29 rfl fun m F => ?_
  repeat (first | refine wZ ?_ | intro b)
  revert b; intro wb
  rw [decide_eq_false (by omega : ¬ 262144 < off)]
  repeat (first | refine wZ ?_ | intro b)
  rw [decide_eq_false (by omega : ¬ 262144 < n)]
  repeat (first | refine wZ ?_ | intro b)
  rw [decide_eq_false ho2]
  repeat (first | refine wZ ?_ | intro b)
  rw [decide_eq_false hn2]
  repeat (first | refine wZ ?_ | intro b)
  refine l_yes rfl rfl rfl (s_call rfl rfl hsc [1, 1] rfl ?_ (fun _ _ h => h.elim))
  rintro _ _ ⟨rfl, rfl⟩
  repeat (first | refine wZ ?_ | intro b)
  rw [← hK]
  refine l_plain rfl (s_call rfl rfl hsz [0, 0] rfl ?_ (fun _ _ h => h.elim))
  rintro _ _ ⟨rfl, rfl⟩
  refine G.ent (L' := blk wb (cl (wCells w0 none 0) 70) :: blk sb (cl [.slice (some ⟨lb, 0, none⟩) xs.length lcap, .slice pa s.pts.length pc, .bool false, .bool s.vg, .bool s.ms] 75) :: blk lb (cl (xs.flatMap lvCells ++ rest) 80) :: Z :: slG (.slice la es.length lc) 139 2 (es.flatMap leCells) :: slP (.slice pa s.pts.length pc) 2 1 (ints s.pts) :: I :: F) (arr_ent 0 [2, 0, 0] _) ?_
  have hv2 : SV xs es Z la lc { s with ls := true } := ⟨hv.ys, hv.ok, hv.le, hv.top⟩
  unfold doW at hres ⊢
  repeat (first | refine wZ ?_ | intro b)
  by_cases ho1 : off < 0
  · rw [decide_eq_true ho1, if_pos ho1]
    repeat (first | refine wZ ?_ | intro b)
    by_cases hb0 : bs.length = 0
    · rw [decide_eq_true (by omega : ((bs.length : Nat) : Int) = 0), if_pos hb0]
      repeat (first | refine wZ ?_ | intro b)
      exact do_ret (w := w0) (wa := none) (wc := 0) (s := s) rfl rfl rfl hls Src.nil rfl hv (Ent.refl _)
    rw [decide_eq_false (by omega : ¬ ((bs.length : Nat) : Int) = 0), if_neg hb0]
    repeat (first | refine wZ ?_ | intro b)
    rw [decide_eq_true ho1]
    repeat (first | refine wZ ?_ | intro b)
    refine l_plain rfl ?_
    apply s_val rfl rfl
    · exact RunS.v (r_build (cells := (wCells ⟨-1, 0, []⟩ none 0).toArray) rfl (by kernel_rfl))
    repeat (first | refine wZ ?_ | intro b)
    exact do_ret (w := ⟨-1, 0, []⟩) (wa := none) (wc := 0) (s := s) rfl rfl rfl hls Src.nil rfl hv (Ent.refl _)
  rw [decide_eq_false ho1, if_neg ho1]
  rw [if_neg ho1] at hres
  repeat (first | refine wZ ?_ | intro b)
  rw [decide_eq_false ho1]
  repeat (first | refine wZ ?_ | intro b)
  by_cases hw : bs.length = 0 ∧ sizeF s.ys (lastK s) < off
  · rw [decide_eq_true (by omega : ((bs.length : Nat) : Int) = 0), if_pos hw]
    repeat (first | refine wZ ?_ | intro b)
    rw [decide_eq_true hw.2]
    repeat (first | refine wZ ?_ | intro b)
    exact do_ret (w := w0) (wa := none) (wc := 0) (s := { s with ls := true }) rfl rfl rfl rfl Src.nil rfl hv2 (Ent.refl _)
  rw [if_neg hw]
  rw [if_neg hw] at hres
  obtain ⟨o, rfl⟩ : ∃ o : Nat, off = o := ⟨off.toNat, by omega⟩
  rw [Int.toNat_natCast] at hres ⊢
  have hkl : (kn bs).length = bs.length := by unfold kn; rw [List.length_map]
  by_cases hb0 : bs.length = 0
  · rw [decide_eq_true (by omega : ((bs.length : Nat) : Int) = 0)]
    repeat (first | refine wZ ?_ | intro b)
    rw [decide_eq_false (fun h => hw ⟨hb0, h⟩)]
    repeat (first | refine wZ ?_ | intro b)
    refine l_plain rfl (s_call rfl rfl (known_c bs da bs.length dc hd (by omega)) [6] rfl ?_ (fun _ _ h => h.elim))
    rintro _ _ ⟨a1, c1, rfl, rfl⟩
    refine G.ent (Ent.trans (arr_ent 0 [1] _) (Ent.refl _)) ?_
    refine src_sl1 fun hk1 hkc => ?_
    refine G.ent (Ent.trans (arr_ent 0 [0, 4] _) (sep_shut [_, _] _)) ?_
    have hch := change_c (sb := sb) (lb := lb) (lcap := lcap) (rest := rest) (p1 := .slice pa s.pts.length pc) (p2 := .bool false) (p3 := .bool s.vg) (ma := s.ms) (xs := xs) (Z := sep [slP (.slice a1 bs.length c1) 123 1 (i16s (kn bs)), Z]) hl1 (fun x hx => (hv.ok x hx).ent sep2_r) hB true (kn bs) a1 c1 (by rw [hkl]; exact hk1.ent sep2_l) (by omega) (fun h => by cases h) (lastK s) (by omega) o (by have := hs.l1; omega) (by rw [hv.ys]; exact hres)
    rw [hv.ys, hkl] at hch
    repeat (first | refine wZ ?_ | intro b)
    refine l_plain rfl (s_call rfl rfl hch [3, 3, 0] rfl ?_ (fun _ _ h => h.elim))
    rintro _ _ ⟨rfl, xs', Z', g1, ⟨g2, g3⟩, g4, g5, rfl⟩
    have g6 : Ent [Z'] [Z] := g5.trans sep2_r
    have hv3 : SV xs' es Z' la lc (chS s true o (kn bs)) := SV_of hv g1 (chF_kd _ _ _ _ _) g3 g4 g6
    repeat (first | refine wZ ?_ | intro b)
    by_cases he : (chF s.ys (lastK s) true o (kn bs)).2.2 = 0
    · rw [decide_eq_true (by omega : (((chF s.ys (lastK s) true o (kn bs)).2.2 : Nat) : Int) = 0), if_pos he]
      repeat (first | refine wZ ?_ | intro b)
      rw [← g2]
      exact G.ent (arr_ent 0 [0, 0, 0, 0, 1, 1, 0] _) (do_ret (w := ⟨((chF s.ys (lastK s) true o (kn bs)).2.2 : Nat), (bs.length : Nat), []⟩) (wa := none) (wc := 0) (s := chS s true o (kn bs)) rfl rfl rfl hls Src.nil rfl hv3 g6)
    · rw [decide_eq_false (by omega : ¬ (((chF s.ys (lastK s) true o (kn bs)).2.2 : Nat) : Int) = 0), if_neg he]
      repeat (first | refine wZ ?_ | intro b)
      rw [← g2]
      exact G.ent (arr_ent 0 [0, 0, 0, 0, 1, 1, 0] _) (do_ret (w := ⟨((chF s.ys (lastK s) true o (kn bs)).2.2 : Nat), 0, []⟩) (wa := none) (wc := 0) (s := chS s true o (kn bs)) rfl rfl rfl hls Src.nil rfl hv3 g6)
  · rw [decide_eq_false (by omega : ¬ ((bs.length : Nat) : Int) = 0)]
    repeat (first | refine wZ ?_ | intro b)
    refine l_plain rfl (s_call rfl rfl (known_c bs da bs.length dc hd (by omega)) [6] rfl ?_ (fun _ _ h => h.elim))
    rintro _ _ ⟨a1, c1, rfl, rfl⟩
    refine G.ent (Ent.trans (arr_ent 0 [1] _) (Ent.refl _)) ?_
    refine src_sl1 fun hk1 hkc => ?_
    refine G.ent (Ent.trans (arr_ent 0 [0, 4] _) (sep_shut [_, _] _)) ?_
    have hch := change_c (sb := sb) (lb := lb) (lcap := lcap) (rest := rest) (p1 := .slice pa s.pts.length pc) (p2 := .bool false) (p3 := .bool s.vg) (ma := s.ms) (xs := xs) (Z := sep [slP (.slice a1 bs.length c1) 123 1 (i16s (kn bs)), Z]) hl1 (fun x hx => (hv.ok x hx).ent sep2_r) hB true (kn bs) a1 c1 (by rw [hkl]; exact hk1.ent sep2_l) (by omega) (fun h => by cases h) (lastK s) (by omega) o (by have := hs.l1; omega) (by rw [hv.ys]; exact hres)
    rw [hv.ys, hkl] at hch
    repeat (first | refine wZ ?_ | intro b)
    refine l_plain rfl (s_call rfl rfl hch [3, 3, 0] rfl ?_ (fun _ _ h => h.elim))
    rintro _ _ ⟨rfl, xs', Z', g1, ⟨g2, g3⟩, g4, g5, rfl⟩
    have g6 : Ent [Z'] [Z] := g5.trans sep2_r
    have hv3 : SV xs' es Z' la lc (chS s true o (kn bs)) := SV_of hv g1 (chF_kd _ _ _ _ _) g3 g4 g6
    repeat (first | refine wZ ?_ | intro b)
    by_cases he : (chF s.ys (lastK s) true o (kn bs)).2.2 = 0
    · rw [decide_eq_true (by omega : (((chF s.ys (lastK s) true o (kn bs)).2.2 : Nat) : Int) = 0), if_pos he]
      repeat (first | refine wZ ?_ | intro b)
      rw [← g2]
      exact G.ent (arr_ent 0 [0, 0, 0, 0, 1, 1, 0] _) (do_ret (w := ⟨((chF s.ys (lastK s) true o (kn bs)).2.2 : Nat), (bs.length : Nat), []⟩) (wa := none) (wc := 0) (s := chS s true o (kn bs)) rfl rfl rfl hls Src.nil rfl hv3 g6)
    · rw [decide_eq_false (by omega : ¬ (((chF s.ys (lastK s) true o (kn bs)).2.2 : Nat) : Int) = 0), if_neg he]
      repeat (first | refine wZ ?_ | intro b)
      rw [← g2]
      exact G.ent (arr_ent 0 [0, 0, 0, 0, 1, 1, 0] _) (do_ret (w := ⟨((chF s.ys (lastK s) true o (kn bs)).2.2 : Nat), 0, []⟩) (wa := none) (wc := 0) (s := chS s true o (kn bs)) rfl rfl rfl hls Src.nil rfl hv3 g6)
set_option maxHeartbeats 8000000 in
theorem doBegin_c (hv : SV xs es Z la lc s) (hs : Sin s) (off n : Int) (ho : -1099511627776 ≤ off ∧ off ≤ 65536) (hn : -1099511627776 ≤ n ∧ n ≤ 65536) (bs : List UInt8) (da : Option Addr) (dc : Nat) (_hd : Src [I] 1 (.slice da bs.length dc) bs.length (u8s bs)) (_hbl : bs.length ≤ 131072) (hls : s.ls = false) (ho2 : ¬ off < -262144) (hn2 : ¬ n < -262144) (hsh : shortF s.ys = false) (hres : ∀ y ∈ (doDe s .begin).1.ys, y.small) :
    Ct Tryz.prog 29 #[.pointer (some ⟨sb, 0, none⟩), .string sBegin, .int .i64 off, .int .i64 n, .slice da bs.length dc] (SH sb lb lcap rest xs es Z la lc pa pc s.pts s.ls s.vg s.ms ++ [I])
      (DoR Z I sb lb lcap rest xs.length (doDe s .begin)) nev := by
  have hxl : xs.length = s.ys.length := by rw [← hv.ys, List.length_map]
  have hl0 : 0 < xs.length := by have := hs.l0; omega
  have hl1 : xs.length ≤ 1000 := by have := hs.l1; omega
  have hB : StB xs := fun k x hx => hs.bs k x.y (by rw [← hv.ys, List.getElem?_map, hx]; rfl)
  have hK : lastK s = xs.length - 1 := by unfold lastK; rw [hxl]
  have hsc := short_c (sb := sb) (lb := lb) (lcap := lcap) (rest := rest) (p1 := .slice pa s.pts.length pc) (p2 := .bool false) (p3 := .bool s.vg) (p4 := .bool s.ms) (xs := xs) hl1 hl0 hv.ok hB
  have hsz := size_c (sb := sb) (lb := lb) (lcap := lcap) (rest := rest) (p1 := .slice pa s.pts.length pc) (p2 := .bool false) (p3 := .bool s.vg) (p4 := .bool s.ms) (xs := xs) hl1 hv.ok hB (xs.length - 1) (by omega)
  have hsb := sizeF_bd hv.ok (lastK s)
  rw [hv.ys, hsh] at hsc
  rw [hv.ys, ← hK] at hsz
  rw [hv.ys] at hsb
  have hK9 : lastK s ≤ 999 := by omega
  unfold SH
  rw [hls]
  refine Ct.of Tryz.func29 rfl Tryz.ntmps29 rfl fun m F => ?_
  repeat (first | refine wZ ?_ | intro b)
  revert b; intro wb
  rw [decide_eq_false (by omega : ¬ 262144 < off)]
  repeat (first | refine wZ ?_ | intro b)
  rw [decide_eq_false (by omega : ¬ 262144 < n)]
  repeat (first | refine wZ ?_ | intro b)
  rw [decide_eq_false ho2]
  repeat (first | refine wZ ?_ | intro b)
  rw [decide_eq_false hn2]
  repeat (first | refine wZ ?_ | intro b)
  refine l_yes rfl rfl rfl (s_call rfl rfl hsc [1, 1] rfl ?_ (fun _ _ h => h.elim))
  rintro _ _ ⟨rfl, rfl⟩
  repeat (first | refine wZ ?_ | intro b)
  rw [← hK]
  refine l_plain rfl (s_call rfl rfl hsz [0, 0] rfl ?_ (fun _ _ h => h.elim))
  rintro _ _ ⟨rfl, rfl⟩
  refine G.ent (L' := blk wb (cl (wCells w0 none 0) 70) :: blk sb (cl [.slice (some ⟨lb, 0, none⟩) xs.length lcap, .slice pa s.pts.length pc, .bool false, .bool s.vg, .bool s.ms] 75) :: blk lb (cl (xs.flatMap lvCells ++ rest) 80) :: Z :: slG (.slice la es.length lc) 139 2 (es.flatMap leCells) :: slP (.slice pa s.pts.length pc) 2 1 (ints s.pts) :: I :: F) (arr_ent 0 [2, 0, 0] _) ?_
  have htp := top_c (sb := sb) (lb := lb) (lcap := lcap) (rest := rest) (p1 := .slice pa s.pts.length pc) (p2 := .bool false) (p3 := .bool s.vg) (p4 := .bool s.ms) (xs := xs) hl1 hl0
  rw [hv.ys] at htp
  repeat (first | refine wZ ?_ | intro b)
  unfold doDe at hres ⊢
  refine l_plain rfl (s_call rfl rfl htp [1, 1] rfl ?_ (fun _ _ h => h.elim))
  rintro _ _ ⟨rfl, rfl⟩
  have htl2 : topF s.ys < xs.length := by
    rw [hxl]
    exact topF_lt hs.l0
  repeat (first | refine wZ ?_ | intro b)
  by_cases ht0 : topF s.ys = 0
  · rw [decide_eq_true (by omega : ((topF s.ys : Nat) : Int) = 0), if_pos ht0]
    repeat (first | refine wZ ?_ | intro b)
    exact do_ret (w := w0) (wa := none) (wc := 0) (s := s) rfl rfl rfl hls Src.nil rfl hv (Ent.refl _)
  rw [decide_eq_false (by omega : ¬ ((topF s.ys : Nat) : Int) = 0), if_neg ht0]
  rw [if_neg ht0] at hres
  obtain ⟨x, hx⟩ : ∃ x, xs[topF s.ys]? = some x := ⟨xs[topF s.ys], List.getElem?_eq_getElem htl2⟩
  have hsx : s.ys[topF s.ys]? = some x.y := by
    have e3 : ∀ i : Nat, s.ys[i]? = (xs[i]?).map (fun x : LV => x.y) := fun i => by rw [← hv.ys, List.getElem?_map]
    rw [e3, hx]
    rfl
  have hkd := topF_isR (by omega) hsx
  obtain ⟨q1, q2, q3⟩ := hv.top x hx
  have hdT : deedT s .begin = deedAt s (topF s.ys - 1) x.y .begin := by
    unfold deedT
    rw [hsx]
  rw [hdT] at hres ⊢
  have hab : ∀ (i : Nat) (y : LV), topF s.ys < i → xs[i]? = some y → y.y.kd = .inner := fun i y h1 h2 => by
    have e4 : s.ys[i]? = some y.y := by rw [← hv.ys, List.getElem?_map, h2]; rfl
    have h3 := topF_above h1 e4
    obtain ⟨i', rfl⟩ : ∃ i', i = i' + 1 := ⟨i - 1, by omega⟩
    have h4 := hs.bs i' y.y e4
    cases hk : y.y.kd with
    | base => exact absurd hk h4
    | inner => rfl
    | roll => rw [hk] at h3; cases h3
  have hel : es.length ≤ 500 := by
    have := hs.ll x.y (List.mem_of_getElem? hsx)
    rw [q1, List.length_map] at this
    exact this
  obtain ⟨j, hj⟩ : ∃ j, topF s.ys = j + 1 := ⟨topF s.ys - 1, by omega⟩
  have htf : topF (deedAt s (topF s.ys - 1) x.y .begin).1.ys = topF s.ys := topF_congr (map_of (f := fun x : Ly => (x.kd, x.off)) (fun p => p.1) (deedAt_kd s (topF s.ys - 1) x.y (by rw [Nat.sub_add_cancel (by omega)]; exact hsx) .begin))
  rw [hj] at hx hres htl2 hab htf ⊢
  rw [Nat.add_sub_cancel] at hres htf ⊢
  obtain ⟨d, hd⟩ : ∃ d, lastK s = j + 1 + d := ⟨lastK s - (j + 1), by omega⟩
  have hdc := deed_c (sb := sb) (lb := lb) (lcap := lcap) (rest := rest) (pa := pa) (pc := pc) (la := la) (lc := lc) (by omega) hv.ok hB hv.le hv.ys j x hx hkd q1 q2 q3 hel hs.pl .begin (hs.os j (by omega)) hres d (by omega) (fun i y h1 _ h3 => hab i y h1 h3)
  rw [← hd, hls] at hdc
  repeat (first | refine wZ ?_ | intro b)
  refine l_plain rfl (s_call rfl rfl hdc [0, 0, 1, 1, 1] rfl ?_ (fun _ _ h => h.elim))
  generalize deedAt s j x.y .begin = r at htf ⊢
  rintro _ _ ⟨rfl, xs', es', Z', la', lc', pa', pc', g1, g2, g3, g4, g5, g6, rfl⟩
  have hv3 : SV xs' es' Z' la' lc' r.1 := ⟨g1, g3, g4, fun x' hx' => g5 x' (by rw [← htf]; exact hx')⟩
  unfold SH
  repeat (first | refine wZ ?_ | intro b)
  cases hl2 : r.1.ls with
  | true =>
    rw [← g2]
    repeat (first | refine wZ ?_ | intro b)
    exact do_ret (w := ⟨(r.2 : Nat), 0, []⟩) (wa := none) (wc := 0) (s := r.1) rfl rfl rfl hl2 Src.nil rfl hv3 g6
  | false =>
    rw [← g2]
    repeat (first | refine wZ ?_ | intro b)
    exact do_ret (w := ⟨(r.2 : Nat), 0, []⟩) (wa := none) (wc := 0) (s := r.1) rfl rfl rfl hl2 Src.nil rfl hv3 g6
set_option maxHeartbeats 8000000 in
theorem doEnd_c (hv : SV xs es Z la lc s) (hs : Sin s) (off n : Int) (ho : -1099511627776 ≤ off ∧ off ≤ 65536) (hn : -1099511627776 ≤ n ∧ n ≤ 65536) (bs : List UInt8) (da : Option Addr) (dc : Nat) (_hd : Src [I] 1 (.slice da bs.length dc) bs.length (u8s bs)) (_hbl : bs.length ≤ 131072) (hls : s.ls = false) (ho2 : ¬ off < -262144) (hn2 : ¬ n < -262144) (hsh : shortF s.ys = false) (hres : ∀ y ∈ (doDe s .fin).1.ys, y.small) :
    Ct Tryz.prog 29 #[.pointer (some ⟨sb, 0, none⟩), .string sEnd, .int .i64 off, .int .i64 n, .slice da bs.length dc] (SH sb lb lcap rest xs es Z la lc pa pc s.pts s.ls s.vg s.ms ++ [I])
      (DoR Z I sb lb lcap rest xs.length (doDe s .fin)) nev := by
  have hxl : xs.length = s.ys.length := by rw [← hv.ys, List.length_map]
  have hl0 : 0 < xs.length := by have := hs.l0; omega
  have hl1 : xs.length ≤ 1000 := by have := hs.l1; omega
  have hB : StB xs := fun k x hx => hs.bs k x.y (by rw [← hv.ys, List.getElem?_map, hx]; rfl)
  have hK : lastK s = xs.length - 1 := by unfold lastK; rw [hxl]
  have hsc := short_c (sb := sb) (lb := lb) (lcap := lcap) (rest := rest) (p1 := .slice pa s.pts.length pc) (p2 := .bool false) (p3 := .bool s.vg) (p4 := .bool s.ms) (xs := xs) hl1 hl0 hv.ok hB
  have hsz := size_c (sb := sb) (lb := lb) (lcap := lcap) (rest := rest) (p1 := .slice pa s.pts.length pc) (p2 := .bool false) (p3 := .bool s.vg) (p4 := .bool s.ms) (xs := xs) hl1 hv.ok hB (xs.length - 1) (by omega)
  have hsb := sizeF_bd hv.ok (lastK s)
  rw [hv.ys, hsh] at hsc
  rw [hv.ys, ← hK] at hsz
  rw [hv.ys] at hsb
  have hK9 : lastK s ≤ 999 := by omega
  unfold SH
  rw [hls]
  refine Ct.of Tryz.func29 rfl Tryz.ntmps29 rfl fun m F => ?_
  repeat (first | refine wZ ?_ | intro b)
  revert b; intro wb
  rw [decide_eq_false (by omega : ¬ 262144 < off)]
  repeat (first | refine wZ ?_ | intro b)
  rw [decide_eq_false (by omega : ¬ 262144 < n)]
  repeat (first | refine wZ ?_ | intro b)
  rw [decide_eq_false ho2]
  repeat (first | refine wZ ?_ | intro b)
  rw [decide_eq_false hn2]
  repeat (first | refine wZ ?_ | intro b)
  refine l_yes rfl rfl rfl (s_call rfl rfl hsc [1, 1] rfl ?_ (fun _ _ h => h.elim))
  rintro _ _ ⟨rfl, rfl⟩
  repeat (first | refine wZ ?_ | intro b)
  rw [← hK]
  refine l_plain rfl (s_call rfl rfl hsz [0, 0] rfl ?_ (fun _ _ h => h.elim))
  rintro _ _ ⟨rfl, rfl⟩
  refine G.ent (L' := blk wb (cl (wCells w0 none 0) 70) :: blk sb (cl [.slice (some ⟨lb, 0, none⟩) xs.length lcap, .slice pa s.pts.length pc, .bool false, .bool s.vg, .bool s.ms] 75) :: blk lb (cl (xs.flatMap lvCells ++ rest) 80) :: Z :: slG (.slice la es.length lc) 139 2 (es.flatMap leCells) :: slP (.slice pa s.pts.length pc) 2 1 (ints s.pts) :: I :: F) (arr_ent 0 [2, 0, 0] _) ?_
  have htp := top_c (sb := sb) (lb := lb) (lcap := lcap) (rest := rest) (p1 := .slice pa s.pts.length pc) (p2 := .bool false) (p3 := .bool s.vg) (p4 := .bool s.ms) (xs := xs) hl1 hl0
  rw [hv.ys] at htp
  repeat (first | refine wZ ?_ | intro b)
  unfold doDe at hres ⊢
  refine l_plain rfl (s_call rfl rfl htp [1, 1] rfl ?_ (fun _ _ h => h.elim))
  rintro _ _ ⟨rfl, rfl⟩
  have htl2 : topF s.ys < xs.length := by
    rw [hxl]
    exact topF_lt hs.l0
  repeat (first | refine wZ ?_ | intro b)
  by_cases ht0 : topF s.ys = 0
  · rw [decide_eq_true (by omega : ((topF s.ys : Nat) : Int) = 0), if_pos ht0]
    repeat (first | refine wZ ?_ | intro b)
    exact do_ret (w := w0) (wa := none) (wc := 0) (s := s) rfl rfl rfl hls Src.nil rfl hv (Ent.refl _)
  rw [decide_eq_false (by omega : ¬ ((topF s.ys : Nat) : Int) = 0), if_neg ht0]
  rw [if_neg ht0] at hres
  obtain ⟨x, hx⟩ : ∃ x, xs[topF s.ys]? = some x := ⟨xs[topF s.ys], List.getElem?_eq_getElem htl2⟩
  have hsx : s.ys[topF s.ys]? = some x.y := by
    have e3 : ∀ i : Nat, s.ys[i]? = (xs[i]?).map (fun x : LV => x.y) := fun i => by rw [← hv.ys, List.getElem?_map]
    rw [e3, hx]
    rfl
  have hkd := topF_isR (by omega) hsx
  obtain ⟨q1, q2, q3⟩ := hv.top x hx
  have hdT : deedT s .fin = deedAt s (topF s.ys - 1) x.y .fin := by
    unfold deedT
    rw [hsx]
  rw [hdT] at hres ⊢
  have hab : ∀ (i : Nat) (y : LV), topF s.ys < i → xs[i]? = some y → y.y.kd = .inner := fun i y h1 h2 => by
    have e4 : s.ys[i]? = some y.y := by rw [← hv.ys, List.getElem?_map, h2]; rfl
    have h3 := topF_above h1 e4
    obtain ⟨i', rfl⟩ : ∃ i', i = i' + 1 := ⟨i - 1, by omega⟩
    have h4 := hs.bs i' y.y e4
    cases hk : y.y.kd with
    | base => exact absurd hk h4
    | inner => rfl
    | roll => rw [hk] at h3; cases h3
  have hel : es.length ≤ 500 := by
    have := hs.ll x.y (List.mem_of_getElem? hsx)
    rw [q1, List.length_map] at this
    exact this
  obtain ⟨j, hj⟩ : ∃ j, topF s.ys = j + 1 := ⟨topF s.ys - 1, by omega⟩
  have htf : topF (deedAt s (topF s.ys - 1) x.y .fin).1.ys = topF s.ys := topF_congr (map_of (f := fun x : Ly => (x.kd, x.off)) (fun p => p.1) (deedAt_kd s (topF s.ys - 1) x.y (by rw [Nat.sub_add_cancel (by omega)]; exact hsx) .fin))
  rw [hj] at hx hres htl2 hab htf ⊢
  rw [Nat.add_sub_cancel] at hres htf ⊢
  obtain ⟨d, hd⟩ : ∃ d, lastK s = j + 1 + d := ⟨lastK s - (j + 1), by omega⟩
  have hdc := deed_c (sb := sb) (lb := lb) (lcap := lcap) (rest := rest) (pa := pa) (pc := pc) (la := la) (lc := lc) (by omega) hv.ok hB hv.le hv.ys j x hx hkd q1 q2 q3 hel hs.pl .fin (hs.os j (by omega)) hres d (by omega) (fun i y h1 _ h3 => hab i y h1 h3)
  rw [← hd, hls] at hdc
  repeat (first | refine wZ ?_ | intro b)
  refine l_plain rfl (s_call rfl rfl hdc [0, 0, 1, 1, 1] rfl ?_ (fun _ _ h => h.elim))
  generalize deedAt s j x.y .fin = r at htf ⊢
  rintro _ _ ⟨rfl, xs', es', Z', la', lc', pa', pc', g1, g2, g3, g4, g5, g6, rfl⟩
  have hv3 : SV xs' es' Z' la' lc' r.1 := ⟨g1, g3, g4, fun x' hx' => g5 x' (by rw [← htf]; exact hx')⟩
  unfold SH
  repeat (first | refine wZ ?_ | intro b)
  cases hl2 : r.1.ls with
  | true =>
    rw [← g2]
    repeat (first | refine wZ ?_ | intro b)
    exact do_ret (w := ⟨(r.2 : Nat), 0, []⟩) (wa := none) (wc := 0) (s := r.1) rfl rfl rfl hl2 Src.nil rfl hv3 g6
  | false =>
    rw [← g2]
    repeat (first | refine wZ ?_ | intro b)
    exact do_ret (w := ⟨(r.2 : Nat), 0, []⟩) (wa := none) (wc := 0) (s := r.1) rfl rfl rfl hl2 Src.nil rfl hv3 g6
set_option maxHeartbeats 8000000 in
theorem doRoll_c (hv : SV xs es Z la lc s) (hs : Sin s) (off n : Int) (ho : -1099511627776 ≤ off ∧ off ≤ 65536) (hn : -1099511627776 ≤ n ∧ n ≤ 65536) (bs : List UInt8) (da : Option Addr) (dc : Nat) (_hd : Src [I] 1 (.slice da bs.length dc) bs.length (u8s bs)) (_hbl : bs.length ≤ 131072) (hls : s.ls = false) (ho2 : ¬ off < -262144) (hn2 : ¬ n < -262144) (hsh : shortF s.ys = false) (hres : ∀ y ∈ (doDe s .roll).1.ys, y.small) :
    Ct Tryz.prog 29 #[.pointer (some ⟨sb, 0, none⟩), .string sRoll, .int .i64 off, .int .i64 n, .slice da bs.length dc] (SH sb lb lcap rest xs es Z la lc pa pc s.pts s.ls s.vg s.ms ++ [I])
      (DoR Z I sb lb lcap rest xs.length (doDe s .roll)) nev := by
  have hxl : xs.length = s.ys.length := by rw [← hv.ys, List.length_map]
  have hl0 : 0 < xs.length := by have := hs.l0; omega
  have hl1 : xs.length ≤ 1000 := by have := hs.l1; omega
  have hB : StB xs := fun k x hx => hs.bs k x.y (by rw [← hv.ys, List.getElem?_map, hx]; rfl)
  have hK : lastK s = xs.length - 1 := by unfold lastK; rw [hxl]
  have hsc := short_c (sb := sb) (lb := lb) (lcap := lcap) (rest := rest) (p1 := .slice pa s.pts.length pc) (p2 := .bool false) (p3 := .bool s.vg) (p4 := .bool s.ms) (xs := xs) hl1 hl0 hv.ok hB
  have hsz := size_c (sb := sb) (lb := lb) (lcap := lcap) (rest := rest) (p1 := .slice pa s.pts.length pc) (p2 := .bool false) (p3 := .bool s.vg) (p4 := .bool s.ms) (xs := xs) hl1 hv.ok hB (xs.length - 1) (by omega)
  have hsb := sizeF_bd hv.ok (lastK s)
  rw [hv.ys, hsh] at hsc
  rw [hv.ys, ← hK] at hsz
  rw [hv.ys] at hsb
  have hK9 : lastK s ≤ 999 := by omega
  unfold SH
  rw [hls]
  refine Ct.of Tryz.func29 rfl Tryz.ntmps29 rfl fun m F => ?_
  repeat (first | refine wZ ?_ | intro b)
  revert b; intro wb
  rw [decide_eq_false (by omega : ¬ 262144 < off)]
  repeat (first | refine wZ ?_ | intro b)
  rw [decide_eq_false (by omega : ¬ 262144 < n)]
  repeat (first | refine wZ ?_ | intro b)
  rw [decide_eq_false ho2]
  repeat (first | refine wZ ?_ | intro b)
  rw [decide_eq_false hn2]
  repeat (first | refine wZ ?_ | intro b)
  refine l_yes rfl rfl rfl (s_call rfl rfl hsc [1, 1] rfl ?_ (fun _ _ h => h.elim))
  rintro _ _ ⟨rfl, rfl⟩
  repeat (first | refine wZ ?_ | intro b)
  rw [← hK]
  refine l_plain rfl (s_call rfl rfl hsz [0, 0] rfl ?_ (fun _ _ h => h.elim))
  rintro _ _ ⟨rfl, rfl⟩
  refine G.ent (L' := blk wb (cl (wCells w0 none 0) 70) :: blk sb (cl [.slice (some ⟨lb, 0, none⟩) xs.length lcap, .slice pa s.pts.length pc, .bool false, .bool s.vg, .bool s.ms] 75) :: blk lb (cl (xs.flatMap lvCells ++ rest) 80) :: Z :: slG (.slice la es.length lc) 139 2 (es.flatMap leCells) :: slP (.slice pa s.pts.length pc) 2 1 (ints s.pts) :: I :: F) (arr_ent 0 [2, 0, 0] _) ?_
  have htp := top_c (sb := sb) (lb := lb) (lcap := lcap) (rest := rest) (p1 := .slice pa s.pts.length pc) (p2 := .bool false) (p3 := .bool s.vg) (p4 := .bool s.ms) (xs := xs) hl1 hl0
  rw [hv.ys] at htp
  repeat (first | refine wZ ?_ | intro b)
  unfold doDe at hres ⊢
  refine l_plain rfl (s_call rfl rfl htp [1, 1] rfl ?_ (fun _ _ h => h.elim))
  rintro _ _ ⟨rfl, rfl⟩
  have htl2 : topF s.ys < xs.length := by
    rw [hxl]
    exact topF_lt hs.l0
  repeat (first | refine wZ ?_ | intro b)
  by_cases ht0 : topF s.ys = 0
  · rw [decide_eq_true (by omega : ((topF s.ys : Nat) : Int) = 0), if_pos ht0]
    repeat (first | refine wZ ?_ | intro b)
    exact do_ret (w := w0) (wa := none) (wc := 0) (s := s) rfl rfl rfl hls Src.nil rfl hv (Ent.refl _)
  rw [decide_eq_false (by omega : ¬ ((topF s.ys : Nat) : Int) = 0), if_neg ht0]
  rw [if_neg ht0] at hres
  obtain ⟨x, hx⟩ : ∃ x, xs[topF s.ys]? = some x := ⟨xs[topF s.ys], List.getElem?_eq_getElem htl2⟩
  have hsx : s.ys[topF s.ys]? = some x.y := by
    have e3 : ∀ i : Nat, s.ys[i]? = (xs[i]?).map (fun x : LV => x.y) := fun i => by rw [← hv.ys, List.getElem?_map]
    rw [e3, hx]
    rfl
  have hkd := topF_isR (by omega) hsx
  obtain ⟨q1, q2, q3⟩ := hv.top x hx
  have hdT : deedT s .roll = deedAt s (topF s.ys - 1) x.y .roll := by
    unfold deedT
    rw [hsx]
  rw [hdT] at hres ⊢
  have hab : ∀ (i : Nat) (y : LV), topF s.ys < i → xs[i]? = some y → y.y.kd = .inner := fun i y h1 h2 => by
    have e4 : s.ys[i]? = some y.y := by rw [← hv.ys, List.getElem?_map, h2]; rfl
    have h3 := topF_above h1 e4
    obtain ⟨i', rfl⟩ : ∃ i', i = i' + 1 := ⟨i - 1, by omega⟩
    have h4 := hs.bs i' y.y e4
    cases hk : y.y.kd with
    | base => exact absurd hk h4
    | inner => rfl
    | roll => rw [hk] at h3; cases h3
  have hel : es.length ≤ 500 := by
    have := hs.ll x.y (List.mem_of_getElem? hsx)
    rw [q1, List.length_map] at this
    exact this
  obtain ⟨j, hj⟩ : ∃ j, topF s.ys = j + 1 := ⟨topF s.ys - 1, by omega⟩
  have htf : topF (deedAt s (topF s.ys - 1) x.y .roll).1.ys = topF s.ys := topF_congr (map_of (f := fun x : Ly => (x.kd, x.off)) (fun p => p.1) (deedAt_kd s (topF s.ys - 1) x.y (by rw [Nat.sub_add_cancel (by omega)]; exact hsx) .roll))
  rw [hj] at hx hres htl2 hab htf ⊢
  rw [Nat.add_sub_cancel] at hres htf ⊢
  obtain ⟨d, hd⟩ : ∃ d, lastK s = j + 1 + d := ⟨lastK s - (j + 1), by omega⟩
  have hdc := deed_c (sb := sb) (lb := lb) (lcap := lcap) (rest := rest) (pa := pa) (pc := pc) (la := la) (lc := lc) (by omega) hv.ok hB hv.le hv.ys j x hx hkd q1 q2 q3 hel hs.pl .roll (hs.os j (by omega)) hres d (by omega) (fun i y h1 _ h3 => hab i y h1 h3)
  rw [← hd, hls] at hdc
  repeat (first | refine wZ ?_ | intro b)
  refine l_plain rfl (s_call rfl rfl hdc [0, 0, 1, 1, 1] rfl ?_ (fun _ _ h => h.elim))
  generalize deedAt s j x.y .roll = r at htf ⊢
  rintro _ _ ⟨rfl, xs', es', Z', la', lc', pa', pc', g1, g2, g3, g4, g5, g6, rfl⟩
  have hv3 : SV xs' es' Z' la' lc' r.1 := ⟨g1, g3, g4, fun x' hx' => g5 x' (by rw [← htf]; exact hx')⟩
  unfold SH
  repeat (first | refine wZ ?_ | intro b)
  cases hl2 : r.1.ls with
  | true =>
    rw [← g2]
    repeat (first | refine wZ ?_ | intro b)
    exact do_ret (w := ⟨(r.2 : Nat), 0, []⟩) (wa := none) (wc := 0) (s := r.1) rfl rfl rfl hl2 Src.nil rfl hv3 g6
  | false =>
    rw [← g2]
    repeat (first | refine wZ ?_ | intro b)
    exact do_ret (w := ⟨(r.2 : Nat), 0, []⟩) (wa := none) (wc := 0) (s := r.1) rfl rfl rfl hl2 Src.nil rfl hv3 g6
end
end Go.Proofs.YtfebpbflpdppiaaGreatDoor
namespace Go.Proofs.YtfebpbflpdppiaaGreatDoor
open Go Go.Sl
set_option maxRecDepth 100000
attribute [local irreducible] wpList Code.wp Exit.then Exit.inBlock bodyPost RunS RunV G St Ct Sat Ent At Rd GQ QL wpAny wpOp wpQuiet slP Sl.ex sep
section
variable {Z I : HP} {sb lb lcap pc lc : Nat} {pa la : Option Addr} {rest : List Value} {xs : List LV} {es : List LE} {s : SS}
theorem do_c (hv : SV xs es Z la lc s) (hs : Sin s) (d : ByteArray) (off n : Int) (ho : -1099511627776 ≤ off ∧ off ≤ 65536) (hn : -1099511627776 ≤ n ∧ n ≤ 65536) (bs : List UInt8) (da : Option Addr) (dc : Nat) (hd : Src [I] 1 (.slice da bs.length dc) bs.length (u8s bs)) (hbl : bs.length ≤ 131072) (hres : ∀ y ∈ (doF s d off n bs).1.ys, y.small) :
    Ct Tryz.prog 29 #[.pointer (some ⟨sb, 0, none⟩), .string d, .int .i64 off, .int .i64 n, .slice da bs.length dc] (SH sb lb lcap rest xs es Z la lc pa pc s.pts s.ls s.vg s.ms ++ [I])
      (DoR Z I sb lb lcap rest xs.length (doF s d off n bs)) nev := by
  unfold doF at hres ⊢
  by_cases hl : s.ls = true ∨ off < -262144 ∨ n < -262144 ∨ shortF s.ys = true
  · rw [if_pos hl]
    exact doLost_c hv hs d off n ho hn da bs.length dc hl
  rw [if_neg hl] at hres ⊢
  have hls : s.ls = false := by cases h : s.ls with | false => rfl | true => exact absurd (.inl h) hl
  have ho2 : ¬ off < -262144 := fun h => hl (.inr (.inl h))
  have hn2 : ¬ n < -262144 := fun h => hl (.inr (.inr (.inl h)))
  have hsh : shortF s.ys = false := by cases h : shortF s.ys with | false => rfl | true => exact absurd (.inr (.inr (.inr h))) hl
  by_cases h0 : d = sWrite
  · rw [if_pos h0] at hres ⊢
    subst h0
    exact doWrite_c hv hs off n ho hn bs da dc hd hbl hls ho2 hn2 hsh hres
  rw [if_neg h0] at hres ⊢
  by_cases h1 : d = sRead
  · rw [if_pos h1]
    subst h1
    exact doRead_c hv hs off n ho hn bs da dc hd hbl hls ho2 hn2 hsh
  rw [if_neg h1] at hres ⊢
  by_cases h2 : d = sSize
  · rw [if_pos h2]
    subst h2
    exact doSize_c hv hs off n ho hn bs da dc hd hbl hls ho2 hn2 hsh
  rw [if_neg h2] at hres ⊢
  by_cases h3 : d = sTrunc
  · rw [if_pos h3] at hres ⊢
    subst h3
    exact doTrunc_c hv hs off n ho hn bs da dc hd hbl hls ho2 hn2 hsh hres
  rw [if_neg h3] at hres ⊢
  by_cases h4 : d = sPunch
  · rw [if_pos h4]
    subst h4
    exact doPunch_c hv hs off n ho hn bs da dc hd hbl hls ho2 hn2 hsh
  rw [if_neg h4] at hres ⊢
  by_cases h5 : d = sBegin
  · rw [if_pos h5] at hres ⊢
    subst h5
    exact doBegin_c hv hs off n ho hn bs da dc hd hbl hls ho2 hn2 hsh hres
  rw [if_neg h5] at hres ⊢
  by_cases h6 : d = sEnd
  · rw [if_pos h6] at hres ⊢
    subst h6
    exact doEnd_c hv hs off n ho hn bs da dc hd hbl hls ho2 hn2 hsh hres
  rw [if_neg h6] at hres ⊢
  by_cases h7 : d = sRoll
  · rw [if_pos h7] at hres ⊢
    subst h7
    exact doRoll_c hv hs off n ho hn bs da dc hd hbl hls ho2 hn2 hsh hres
  rw [if_neg h7] at hres ⊢
  by_cases h8 : d = sSync
  · rw [if_pos h8]
    subst h8
    exact doSync_c hv hs off n ho hn bs da dc hd hbl hls ho2 hn2 hsh
  rw [if_neg h8]
  exact doElse_c hv hs off n ho hn bs da dc hd hbl hls ho2 hn2 hsh d h0 h1 h2 h3 h4 h5 h6 h7 h8
end
end Go.Proofs.YtfebpbflpdppiaaGreatDoor
namespace Go.Proofs.YtfebpbflpdppiaaGreatDoor
open Go Go.Sl
set_option maxRecDepth 100000
def okK (y : ByteArray × Int) : Bool := decide (y.1 = sInner) || decide (y.1 = sRb)
def lyY (y : ByteArray × Int) : Ly := if y.1 = sInner then ⟨.inner, y.2.toNat, [], [], 0, []⟩ else ⟨.roll, 0, [], [], 0, []⟩
def s0 (ib : List UInt8) (ly : List (ByteArray × Int)) : SS := ⟨⟨.base, 0, kn ib, [], 0, []⟩ :: ly.map lyY, [], false, false, false⟩
def lyV (y : ByteArray × Int) : LV := ⟨lyY y, none, 0, none, 0, none, 0⟩
def lvx (ib : List UInt8) (a : Option Addr) (c : Nat) (ly : List (ByteArray × Int)) : List LV := ⟨⟨.base, 0, kn ib, [], 0, []⟩, a, c, none, 0, none, 0⟩ :: ly.map lyV
theorem lvx_len (ib : List UInt8) (a : Option Addr) (c : Nat) (ly : List (ByteArray × Int)) : (lvx ib a c ly).length = ly.length + 1 := by simp [lvx]
theorem lvx_snoc (ib : List UInt8) (a : Option Addr) (c : Nat) (ly : List (ByteArray × Int)) (y : ByteArray × Int) : lvx ib a c (ly ++ [y]) = lvx ib a c ly ++ [lyV y] := by simp [lvx]
theorem lyY_lev (y : ByteArray × Int) : (lyY y).levels = [] ∧ (lyY y).bytes = [] ∧ (lyY y).wrote = [] ∧ (lyY y).shadow = 0 := by unfold lyY; split <;> exact ⟨rfl, rfl, rfl, rfl⟩
theorem lyV_cells (y : ByteArray × Int) : lvCells (lyV y) = [.string (lyY y).kd.s, .int .i64 ((lyY y).off : Nat), .slice none 0 0, .slice none 0 0, .int .i64 0, .slice none 0 0] := by
  obtain ⟨h1, h2, h3, h4⟩ := lyY_lev y
  unfold lvCells lyV
  dsimp only
  rw [h1, h2, h3, h4]
  rfl
theorem lvx_SV {Z : HP} {ib : List UInt8} {a : Option Addr} {c : Nat} {ly : List (ByteArray × Int)} (hb : Src [Z] 1 (.slice a ib.length c) ib.length (i16s (kn ib))) (hc : ib.length ≤ c) (hl : ib.length ≤ 65536) (ho : ∀ y ∈ ly, 0 ≤ y.2 ∧ y.2 ≤ 65536) : SV (lvx ib a c ly) [] Z none 0 (s0 ib ly) := by
  have hkl : (kn ib).length = ib.length := by unfold kn; rw [List.length_map]
  refine ⟨by simp [lvx, s0, lyV], fun x hx => ?_, fun e he => by simp at he, fun x hx => ?_⟩
  · unfold lvx at hx
    rcases List.mem_cons.1 hx with rfl | hx
    · exact ⟨by dsimp only; rw [hkl]; exact hb, by dsimp only; omega, Src.nil, Nat.le_refl _, by dsimp only; omega, Nat.zero_le _, Nat.zero_le _, Nat.zero_le _, Nat.zero_le _⟩
    · obtain ⟨y, hy, rfl⟩ := List.mem_map.1 hx
      obtain ⟨h1, h2, h3, h4⟩ := lyY_lev y
      have hyo := ho y hy
      have hoff : (lyY y).off ≤ 1000000 := by unfold lyY; split <;> dsimp only <;> omega
      unfold lyV
      refine ⟨?_, ?_, ?_, ?_, ?_, ?_, hoff, ?_, ?_⟩
      · dsimp only; rw [h2]; exact Src.nil
      · dsimp only; rw [h2]; exact Nat.le_refl _
      · dsimp only; rw [h3]; exact Src.nil
      · dsimp only; rw [h3]; exact Nat.le_refl _
      · dsimp only; rw [h2]; exact Nat.zero_le _
      · dsimp only; rw [h3]; exact Nat.zero_le _
      · dsimp only; rw [h4]; exact Nat.zero_le _
      · dsimp only; rw [h1]; exact Nat.zero_le _
  · have hm := List.mem_of_getElem? hx
    unfold lvx at hm
    rcases List.mem_cons.1 hm with rfl | hm
    · exact ⟨rfl, rfl, rfl⟩
    · obtain ⟨y, hy, rfl⟩ := List.mem_map.1 hm
      exact ⟨(lyY_lev y).1, rfl, rfl⟩
/-- what stands behind NewStack -/
def NsR (I : HP) (ib : List UInt8) (ly : List (ByteArray × Int)) (v : Value) (B : List HP) : Prop :=
  (ly.all okK = true ∧ ∃ (sb lb lcap : Nat) (rest : List Value) (xs : List LV) (Z : HP), v = .tuple #[.pointer (some ⟨sb, 0, none⟩), .bool true] ∧ SV xs [] Z none 0 (s0 ib ly) ∧ xs.length = ly.length + 1 ∧ B = SH sb lb lcap rest xs [] Z none 0 none 0 [] false false false ++ [I]) ∨
  (ly.all okK = false ∧ v = .tuple #[.pointer none, .bool false] ∧ B = [I])
theorem all_false {α : Type} {p : α → Bool} {l : List α} {i : Nat} {x : α} (hx : l[i]? = some x) (h : p x = false) : l.all p = false := by
  rw [List.all_eq_false]
  exact ⟨x, List.mem_of_getElem? hx, by simp [h]⟩
theorem ne_lit2 {d b : ByteArray} (h : d ≠ b) : (d.toList == b.toList) = false := by
  rw [ByteArray.toList_eq, ByteArray.toList_eq]
  exact ne_lit h
attribute [local irreducible] wpList Code.wp Exit.then Exit.inBlock bodyPost RunS RunV G St Ct Sat Ent At Rd GQ QL wpAny wpOp wpQuiet slP Sl.ex sep
section
variable {I : HP}
set_option maxHeartbeats 16000000 in
theorem NewStack_c (ib : List UInt8) (ia : Option Addr) (ni nc : Nat) (hi : Src [I] 1 (.slice ia ni nc) ni (u8s ib)) (hni : ni ≤ 65536)
    (ly : List (ByteArray × Int)) (ya : Option Addr) (ny yc : Nat) (hy : Src [I] 2 (.slice ya ny yc) ny (ly.flatMap lyC)) (hly : ly.length = ny) (hy6 : ny ≤ 6) (hyo : ∀ y ∈ ly, 0 ≤ y.2 ∧ y.2 ≤ 65536) :
    Ct Tryz.prog 28 #[.slice ia ni nc, .slice ya ny yc] [I] (NsR I ib ly) nev := by
  have hkl : ib.length = ni := by have := hi.len; simpa using this
  refine Ct.of Tryz.func28 rfl Tryz.ntmps28 rfl fun m F => ?_
  repeat (first | refine wZ ?_ | intro b)
  refine l_plain rfl (s_call rfl rfl (known_c ib ia ni nc hi (by omega)) [0] rfl ?_ (fun _ _ h => h.elim))
  rintro _ _ ⟨a1, c1, rfl, rfl⟩
  refine G.ent (Ent.trans (arr_ent 0 [1] _) (Ent.refl _)) ?_
  refine src_sl1 fun hk1 hkc => ?_
  refine l_plain rfl ?_
  apply s_val rfl rfl
  · exact RunS.v (r_build (cells := #[.string ⟨#[]⟩, .int .i64 0, .slice a1 ni c1, .slice none 0 0, .int .i64 0, .slice none 0 0]) rfl (by kernel_rfl))
  refine l_plain rfl (s_build (size := 6) (vs := [.agg #[.string ⟨#[]⟩, .int .i64 0, .slice a1 ni c1, .slice none 0 0, .int .i64 0, .slice none 0 0]]) (l := [.string ⟨#[]⟩, .int .i64 0, .slice a1 ni c1, .slice none 0 0, .int .i64 0, .slice none 0 0]) rfl rfl rfl rfl rfl (by intro v hv; simp at hv; subst hv; rfl) (by simp [Value.cells]) rfl rfl fun lb0 => ?_)
  refine l_plain rfl ?_
  apply s_val rfl rfl
  · exact RunS.v (r_build (cells := #[.slice (some ⟨lb0, 0, none⟩) 1 1, .slice none 0 0, .bool false, .bool false, .bool false]) rfl (by kernel_rfl))
  repeat (first | refine wZ ?_ | intro b)
  revert b; intro sb
  subst hkl
  refine G.ent (L' := blk sb (cl [.slice (some ⟨lb0, 0, none⟩) (0 + 1) 1, .slice none 0 0, .bool false, .bool false, .bool false] 75) :: slP (.slice (some ⟨lb0, 0, none⟩) (0 + 1) 1) 80 6 ((lvx ib a1 c1 []).flatMap lvCells) :: slP (.slice a1 ib.length c1) 123 1 (i16s (kn ib)) :: I :: F) (Ent.cons ?_) ?_
  · have hkl : (kn ib).length = ib.length := by unfold kn; rw [List.length_map]
    have e1 : (lvx ib a1 c1 []).flatMap lvCells = [.string ⟨#[]⟩, .int .i64 0, .slice a1 ib.length c1, .slice none 0 0, .int .i64 0, .slice none 0 0] := by
      unfold lvx
      simp only [List.map_nil, List.flatMap_cons, List.flatMap_nil, List.append_nil]
      unfold lvCells
      dsimp only
      rw [hkl]
      rfl
    rw [e1]
    exact slP_blk (k := 1) rfl (by simp only [maxLen]; omega)
  refine c_loop (α := Nat × Option Addr × Nat) (fun y => [(18, .int .i64 (y.1 : Nat)), (17, .int .i64 (ny : Nat)), (16, .slice ya ny yc), (6, .pointer (some ⟨sb, 0, none⟩)), (4, .pointer none), (5, .bool false)])
    (fun y => blk sb (cl [.slice y.2.1 (y.1 + 1) y.2.2, .slice none 0 0, .bool false, .bool false, .bool false] 75) :: slP (.slice y.2.1 (y.1 + 1) y.2.2) 80 6 ((lvx ib a1 c1 (ly.take y.1)).flatMap lvCells) :: slP (.slice a1 ib.length c1) 123 1 (i16s (kn ib)) :: I :: F) (fun y => y.1 ≤ ny ∧ (ly.take y.1).all okK = true) (fun y => ny - y.1) (0, some ⟨lb0, 0, none⟩, 1)
    ⟨Nat.zero_le _, rfl⟩ (by exact ⟨rfl, rfl, rfl, rfl, rfl, rfl, trivial⟩) (Ent.refl _) ?_
  rintro ⟨i, a, c⟩ ⟨hi1, hi2⟩
  dsimp only at hi1 hi2 ⊢
  by_cases hlt : i < ny
  · obtain ⟨yb, yo, rfl, hyr⟩ := src_addr hy (by omega)
    obtain ⟨⟨kd, yoff⟩, hx⟩ : ∃ x, ly[i]? = some x := ⟨ly[i]'(by omega), List.getElem?_eq_getElem (by omega)⟩
    have hxo := hyo _ (List.mem_of_getElem? hx)
    dsimp only at hxo
    obtain ⟨o, rfl⟩ : ∃ o : Nat, yoff = o := ⟨yoff.toNat, by omega⟩
    have htk : ly.take (i + 1) = ly.take i ++ [(kd, (o : Int))] := by rw [List.take_add_one, hx]; rfl
    have hrd : RdN [I] yb (yo + i * 2) [.string kd, .int .i64 (o : Nat)] := rd_part (f := lyC) (fun _ => rfl) hyr hx
    repeat (first | refine wZ ?_ | intro b)
    rw [decide_eq_true (by omega : (i : Int) < (ny : Int))]
    repeat (first | refine wZ ?_ | intro b)
    refine l_plain rfl ?_
    apply s_val rfl rfl
    · exact RunS.v (r_index (i := i) rfl rfl rfl hlt)
    refine l_plain rfl ?_
    apply s_val rfl rfl
    · exact r_loadN (vs := [.string kd, .int .i64 (o : Nat)]) rfl rfl rfl (RdN.ent hrd (Ent.pick1 (i := 3) rfl))
    repeat (first | refine wZ ?_ | intro b)
    revert b; intro xb
    refine G.ent (L' := blk xb (cl [.string kd, .int .i64 (o : Nat)] 29) :: blk sb (cl [.slice a (i + 1) c, .slice none 0 0, .bool false, .bool false, .bool false] 75) :: slP (.slice a (i + 1) c) 80 6 ((lvx ib a1 c1 (ly.take i)).flatMap lvCells) :: slP (.slice a1 ib.length c1) 123 1 (i16s (kn ib)) :: I :: F) (Ent.refl _) ?_
    by_cases hkI : kd = sInner
    · subst hkI
      rw [show (ByteArray.toList sInner == ByteArray.toList ⟨#[105, 110, 110, 101, 114]⟩) = true from beq_self_eq_true _]
      repeat (first | refine wZ ?_ | intro b)
      rw [decide_eq_false (by omega : ¬ (o : Int) < 0)]
      repeat (first | refine wZ ?_ | intro b)
      rw [decide_eq_false (by omega : ¬ (262144 : Int) < (o : Int))]
      repeat (first | refine wZ ?_ | intro b)
      refine l_plain rfl ?_
      apply s_val rfl rfl
      · exact RunS.v (r_build (cells := #[.string sInner, .int .i64 0, .slice none 0 0, .slice none 0 0, .int .i64 0, .slice none 0 0]) rfl (by kernel_rfl))
      repeat (first | refine wY ?_ | intro b)
      revert b; intro tb
      refine G.ent (L' := blk tb (cl [.string sInner, .int .i64 (o : Nat), .slice none 0 0, .slice none 0 0, .int .i64 0, .slice none 0 0] 80) :: blk xb (cl [.string sInner, .int .i64 (o : Nat)] 29) :: blk sb (cl [.slice a (i + 1) c, .slice none 0 0, .bool false, .bool false, .bool false] 75) :: slP (.slice a (i + 1) c) 80 6 ((lvx ib a1 c1 (ly.take i)).flatMap lvCells) :: slP (.slice a1 ib.length c1) 123 1 (i16s (kn ib)) :: I :: F) (Ent.refl _) ?_
      have hC : lvCells (lyV (sInner, (o : Int))) = [.string sInner, .int .i64 (o : Nat), .slice none 0 0, .slice none 0 0, .int .i64 0, .slice none 0 0] := by
        rw [lyV_cells]
        unfold lyY
        rw [if_pos rfl]
        rfl
      have hE0 : ∀ R : List HP, Ent (blk tb (cl [.string sInner, .int .i64 (o : Nat), .slice none 0 0, .slice none 0 0, .int .i64 0, .slice none 0 0] 80) :: R) [blk tb (cl [.string sInner, .int .i64 (o : Nat), .slice none 0 0, .slice none 0 0, .int .i64 0, .slice none 0 0] 80)] := fun R => Ent.left [_] R
      have hE1 : ∀ (A : HP) (R : List HP), Ent (A :: blk tb (cl [.string sInner, .int .i64 (o : Nat), .slice none 0 0, .slice none 0 0, .int .i64 0, .slice none 0 0] 80) :: R) [blk tb (cl [.string sInner, .int .i64 (o : Nat), .slice none 0 0, .slice none 0 0, .int .i64 0, .slice none 0 0] 80)] := fun A R => Ent.drop.trans (hE0 R)
      have hE2 : ∀ (A B : HP) (R : List HP), Ent (A :: B :: blk tb (cl [.string sInner, .int .i64 (o : Nat), .slice none 0 0, .slice none 0 0, .int .i64 0, .slice none 0 0] 80) :: R) [blk tb (cl [.string sInner, .int .i64 (o : Nat), .slice none 0 0, .slice none 0 0, .int .i64 0, .slice none 0 0] 80)] := fun A B R => Ent.drop.trans (hE1 B R)
      have hE3 : ∀ (A B D : HP) (R : List HP), Ent (A :: B :: D :: blk tb (cl [.string sInner, .int .i64 (o : Nat), .slice none 0 0, .slice none 0 0, .int .i64 0, .slice none 0 0] 80) :: R) [blk tb (cl [.string sInner, .int .i64 (o : Nat), .slice none 0 0, .slice none 0 0, .int .i64 0, .slice none 0 0] 80)] := fun A B D R => Ent.drop.trans (hE2 B D R)
      refine h_any [blk tb (cl [.string sInner, .int .i64 (o : Nat), .slice none 0 0, .slice none 0 0, .int .i64 0, .slice none 0 0] 80)] 11 rfl ?_
      refine h_take (hE0 _) 0 rfl (by kernel_rfl) (by kernel_rfl) (by kernel_rfl) rfl rfl rfl pQ rV ?_
      refine h_take (hE0 _) 1 rfl (by kernel_rfl) (by kernel_rfl) (by kernel_rfl) rfl rfl rfl pQ rV ?_
      refine h_take (hE0 _) 2 rfl (by kernel_rfl) (by kernel_rfl) (by kernel_rfl) rfl rfl rfl pQ rV ?_
      refine h_take (hE0 _) 3 rfl (by kernel_rfl) (by kernel_rfl) (by kernel_rfl) rfl rfl rfl pQ rV ?_
      refine h_take (v := .agg #[.string sInner, .int .i64 (o : Nat), .slice none 0 0, .slice none 0 0, .int .i64 0, .slice none 0 0]) (hE0 _) 5 rfl (by kernel_rfl) (by kernel_rfl) (by kernel_rfl) rfl rfl rfl pQ (r_loadN rfl rfl rfl (rdn_all 0 rfl)) ?_
      repeat' first
        | refine h_two 4 6 (by decide +kernel) rfl rfl rfl rfl ?_ ?_
        | refine h_one 4 (by decide +kernel) rfl rfl ?_
        | refine h_one 6 (by decide +kernel) rfl rfl ?_
        | (refine s_build (size := 6) (vs := [.agg #[.string sInner, .int .i64 (o : Nat), .slice none 0 0, .slice none 0 0, .int .i64 0, .slice none 0 0]]) (l := [.string sInner, .int .i64 (o : Nat), .slice none 0 0, .slice none 0 0, .int .i64 0, .slice none 0 0]) rfl rfl rfl rfl rfl (by intro v hv; simp at hv; subst hv; rfl) (by simp [Value.cells]) rfl rfl fun tb3 => ?_; refine h_then (hE1 _ _) ?_)
        | (apply s_val (v := .slice a (i + 1) c) rfl rfl; (first | exact r_load rfl rfl (rd_blk 2 rfl rfl) | exact r_load rfl rfl (rd_blk 3 rfl rfl)); (first | refine h_then (hE0 _) ?_ | refine h_then (hE1 _ _) ?_))
        | fail
      all_goals
        refine h_one 7 (by kernel_rfl) rfl rfl ?_
        refine s_append (i := 4) rfl rfl rfl (Src.some _ _ _ _ _ rfl (rdn_all 0 rfl)) rfl rfl (by rw [flat_len lvCells 6 (fun _ => rfl), lvx_len, List.length_take, Nat.min_eq_left (by omega)]) rfl (by omega) (by simp only [maxLen]; omega) rfl fun a3 c3 => ?_
        refine h_then (hE2 _ _ _) ?_
        refine h_take (hE2 _ _ _) 8 rfl (by kernel_rfl) (by kernel_rfl) (by kernel_rfl) rfl rfl rfl pQ rV ?_
        refine h_take (hE2 _ _ _) 9 rfl (by kernel_rfl) (by kernel_rfl) (by kernel_rfl) rfl rfl rfl pQ rV ?_
        refine h_one 10 (by kernel_rfl) rfl rfl ?_
        refine s_store (i := 4) rfl rfl rfl rfl rfl rfl rfl ?_
        refine h_then (hE3 _ _ _ _) ?_
        refine h_done (by kernel_rfl) ?_
        repeat (first | refine wZ ?_ | intro b)
        refine at_intro (i + 1, a3, c3) ⟨⟨by dsimp only; omega, ?_⟩, by dsimp only; omega⟩ ⟨rfl, rfl, rfl, rfl, rfl, rfl, trivial⟩ ?_
        · dsimp only
          rw [htk, List.all_append, hi2]
          rfl
        · dsimp only
          rw [htk, lvx_snoc, List.flatMap_append, List.flatMap_singleton, hC]
          exact arr_ent 3 [0, 0, 3, 3] _
    · by_cases hkR : kd = sRb
      · subst hkR
        rw [ne_lit2 hkI]
        repeat (first | refine wZ ?_ | intro b)
        rw [show (ByteArray.toList sRb == ByteArray.toList ⟨#[114, 111, 108, 108, 98, 97, 99, 107]⟩) = true from beq_self_eq_true _]
        repeat (first | refine wZ ?_ | intro b)
        refine l_plain rfl ?_
        apply s_val rfl rfl
        · exact RunS.v (r_build (cells := #[.string sRb, .int .i64 0, .slice none 0 0, .slice none 0 0, .int .i64 0, .slice none 0 0]) rfl (by kernel_rfl))
        repeat (first | refine wY ?_ | intro b)
        revert b; intro tb
        refine G.ent (L' := blk tb (cl [.string sRb, .int .i64 0, .slice none 0 0, .slice none 0 0, .int .i64 0, .slice none 0 0] 80) :: blk xb (cl [.string sRb, .int .i64 (o : Nat)] 29) :: blk sb (cl [.slice a (i + 1) c, .slice none 0 0, .bool false, .bool false, .bool false] 75) :: slP (.slice a (i + 1) c) 80 6 ((lvx ib a1 c1 (ly.take i)).flatMap lvCells) :: slP (.slice a1 ib.length c1) 123 1 (i16s (kn ib)) :: I :: F) (Ent.refl _) ?_
        have hC : lvCells (lyV (sRb, (o : Int))) = [.string sRb, .int .i64 0, .slice none 0 0, .slice none 0 0, .int .i64 0, .slice none 0 0] := by
          rw [lyV_cells]
          unfold lyY
          rw [if_neg hkI]
          rfl
        have hE0 : ∀ R : List HP, Ent (blk tb (cl [.string sRb, .int .i64 0, .slice none 0 0, .slice none 0 0, .int .i64 0, .slice none 0 0] 80) :: R) [blk tb (cl [.string sRb, .int .i64 0, .slice none 0 0, .slice none 0 0, .int .i64 0, .slice none 0 0] 80)] := fun R => Ent.left [_] R
        have hE1 : ∀ (A : HP) (R : List HP), Ent (A :: blk tb (cl [.string sRb, .int .i64 0, .slice none 0 0, .slice none 0 0, .int .i64 0, .slice none 0 0] 80) :: R) [blk tb (cl [.string sRb, .int .i64 0, .slice none 0 0, .slice none 0 0, .int .i64 0, .slice none 0 0] 80)] := fun A R => Ent.drop.trans (hE0 R)
        have hE2 : ∀ (A B : HP) (R : List HP), Ent (A :: B :: blk tb (cl [.string sRb, .int .i64 0, .slice none 0 0, .slice none 0 0, .int .i64 0, .slice none 0 0] 80) :: R) [blk tb (cl [.string sRb, .int .i64 0, .slice none 0 0, .slice none 0 0, .int .i64 0, .slice none 0 0] 80)] := fun A B R => Ent.drop.trans (hE1 B R)
        have hE3 : ∀ (A B D : HP) (R : List HP), Ent (A :: B :: D :: blk tb (cl [.string sRb, .int .i64 0, .slice none 0 0, .slice none 0 0, .int .i64 0, .slice none 0 0] 80) :: R) [blk tb (cl [.string sRb, .int .i64 0, .slice none 0 0, .slice none 0 0, .int .i64 0, .slice none 0 0] 80)] := fun A B D R => Ent.drop.trans (hE2 B D R)
        refine h_any [blk tb (cl [.string sRb, .int .i64 0, .slice none 0 0, .slice none 0 0, .int .i64 0, .slice none 0 0] 80)] 11 rfl ?_
        refine h_take (hE0 _) 0 rfl (by kernel_rfl) (by kernel_rfl) (by kernel_rfl) rfl rfl rfl pQ rV ?_
        refine h_take (hE0 _) 1 rfl (by kernel_rfl) (by kernel_rfl) (by kernel_rfl) rfl rfl rfl pQ rV ?_
        refine h_take (hE0 _) 2 rfl (by kernel_rfl) (by kernel_rfl) (by kernel_rfl) rfl rfl rfl pQ rV ?_
        refine h_take (hE0 _) 3 rfl (by kernel_rfl) (by kernel_rfl) (by kernel_rfl) rfl rfl rfl pQ rV ?_
        refine h_take (v := .agg #[.string sRb, .int .i64 0, .slice none 0 0, .slice none 0 0, .int .i64 0, .slice none 0 0]) (hE0 _) 5 rfl (by kernel_rfl) (by kernel_rfl) (by kernel_rfl) rfl rfl rfl pQ (r_loadN rfl rfl rfl (rdn_all 0 rfl)) ?_
        repeat' first
          | refine h_two 4 6 (by decide +kernel) rfl rfl rfl rfl ?_ ?_
          | refine h_one 4 (by decide +kernel) rfl rfl ?_
          | refine h_one 6 (by decide +kernel) rfl rfl ?_
          | (refine s_build (size := 6) (vs := [.agg #[.string sRb, .int .i64 0, .slice none 0 0, .slice none 0 0, .int .i64 0, .slice none 0 0]]) (l := [.string sRb, .int .i64 0, .slice none 0 0, .slice none 0 0, .int .i64 0, .slice none 0 0]) rfl rfl rfl rfl rfl (by intro v hv; simp at hv; subst hv; rfl) (by simp [Value.cells]) rfl rfl fun tb3 => ?_; refine h_then (hE1 _ _) ?_)
          | (apply s_val (v := .slice a (i + 1) c) rfl rfl; (first | exact r_load rfl rfl (rd_blk 2 rfl rfl) | exact r_load rfl rfl (rd_blk 3 rfl rfl)); (first | refine h_then (hE0 _) ?_ | refine h_then (hE1 _ _) ?_))
          | fail
        all_goals
          refine h_one 7 (by kernel_rfl) rfl rfl ?_
          refine s_append (i := 4) rfl rfl rfl (Src.some _ _ _ _ _ rfl (rdn_all 0 rfl)) rfl rfl (by rw [flat_len lvCells 6 (fun _ => rfl), lvx_len, List.length_take, Nat.min_eq_left (by omega)]) rfl (by omega) (by simp only [maxLen]; omega) rfl fun a3 c3 => ?_
          refine h_then (hE2 _ _ _) ?_
          refine h_take (hE2 _ _ _) 8 rfl (by kernel_rfl) (by kernel_rfl) (by kernel_rfl) rfl rfl rfl pQ rV ?_
          refine h_take (hE2 _ _ _) 9 rfl (by kernel_rfl) (by kernel_rfl) (by kernel_rfl) rfl rfl rfl pQ rV ?_
          refine h_one 10 (by kernel_rfl) rfl rfl ?_
          refine s_store (i := 4) rfl rfl rfl rfl rfl rfl rfl ?_
          refine h_then (hE3 _ _ _ _) ?_
          refine h_done (by kernel_rfl) ?_
          repeat (first | refine wZ ?_ | intro b)
          refine at_intro (i + 1, a3, c3) ⟨⟨by dsimp only; omega, ?_⟩, by dsimp only; omega⟩ ⟨rfl, rfl, rfl, rfl, rfl, rfl, trivial⟩ ?_
          · dsimp only
            rw [htk, List.all_append, hi2]
            rfl
          · dsimp only
            rw [htk, lvx_snoc, List.flatMap_append, List.flatMap_singleton, hC]
            exact arr_ent 3 [0, 0, 3, 3] _
      · rw [ne_lit2 hkI]
        repeat (first | refine wZ ?_ | intro b)
        rw [ne_lit2 hkR]
        repeat (first | refine wZ ?_ | intro b)
        refine e_ret2 _ rfl rfl rfl (.inr ⟨?_, rfl, rfl⟩) (arr_ent 4 [4] _)
        refine all_false hx ?_
        unfold okK
        dsimp only
        rw [decide_eq_false hkI, decide_eq_false hkR]
        rfl
  · obtain rfl : i = ny := by omega
    rw [List.take_of_length_le (by omega)] at hi2 ⊢
    repeat (first | refine wZ ?_ | intro b)
    rw [decide_eq_false (by omega : ¬ (i : Int) < (i : Int))]
    repeat (first | refine wZ ?_ | intro b)
    refine G.ent (Ent.trans (arr_ent 0 [1] _) (Ent.refl _)) ?_
    have hl6 : ((lvx ib a1 c1 ly).flatMap lvCells).length = (i + 1) * 6 := by rw [flat_len lvCells 6 (fun _ => rfl), lvx_len, hly]
    refine slP_open (fun _ h => absurd h (by omega)) (fun lb rest q1 q2 q3 q4 q5 => ?_)
    subst q1
    refine e_ret2 _ rfl rfl rfl (.inl ⟨hi2, sb, lb, c, rest, lvx ib a1 c1 ly, slP (.slice a1 ib.length c1) 123 1 (i16s (kn ib)), rfl, lvx_SV hk1 hkc (by omega) hyo, by rw [lvx_len], rfl⟩) ?_
    unfold SH
    rw [lvx_len, hly]
    exact (arr_ent 0 [1, 0] _).trans (Ent.append [_, _, _] ((slP_nil (e := 2) (size := 1)).trans ((slP_nil (e := 139) (size := 2)).trans slG_P)))
end
end Go.Proofs.YtfebpbflpdppiaaGreatDoor
namespace Go.Proofs.YtfebpbflpdppiaaGreatDoor
open Go Go.Sl
set_option maxRecDepth 100000
def toldF (w : Wnt) (e q : Int) (dat : List UInt8) (d : ByteArray) : Bool :=
  if w.e = -1 then !decide (e = 0) && !decide (e = 7)
  else if (w.e = -2 ∧ e ≠ 0 ∧ e ≠ 1) ∨ (w.e ≠ -2 ∧ e ≠ w.e) then false
  else if d = sRead then decide (q = w.n) && fitsF w.b dat
  else if d = sWrite ∨ d = sSize then decide (0 < w.e) || decide (q = w.n)
  else true
attribute [local irreducible] wpList Code.wp Exit.then Exit.inBlock bodyPost RunS RunV G St Ct Sat Ent At Rd GQ QL wpAny wpOp wpQuiet slP Sl.ex sep
end Go.Proofs.YtfebpbflpdppiaaGreatDoor
namespace Go.Proofs.YtfebpbflpdppiaaGreatDoor
open Go Go.Sl
set_option maxRecDepth 100000
/-- step by step: what is answered at once, or the stack behind all steps -/
def fitR (s : SS) : List Stp → List Tld → Bool ⊕ SS
  | [], _ => .inr s
  | st :: l, T =>
    if (doF s st.d st.off st.n st.bs).1.ls = true ∧ (doF s st.d st.off st.n st.bs).2.2 = false then .inl true
    else match T with
      | [] => .inl false
      | td :: T' =>
        if (doF s st.d st.off st.n st.bs).2.2 = true ∧ toldF (doF s st.d st.off st.n st.bs).2.1 td.e td.q td.dat st.d = false then .inl false
        else if (doF s st.d st.off st.n st.bs).1.ls = true then .inl true
        else fitR (doF s st.d st.off st.n st.bs).1 l T'
def baseB (s : SS) : List Int := match s.ys[0]? with
  | some x => x.bytes
  | none => []
def fitE (s : SS) (nT nS : Nat) (out : List UInt8) (pts : List Int) : Bool :=
  if nT ≠ nS ∨ fitsF (baseB s) out = false then false
  else if s.vg = true then true
  else decide (pts = s.pts)
def fitV (g : Bool ⊕ SS) (nT nS : Nat) (out : List UInt8) (pts : List Int) : Bool := match g with
  | .inl v => v
  | .inr s => fitE s nT nS out pts
def fitF (ib : List UInt8) (ly : List (ByteArray × Int)) (steps : List Stp) (T : List Tld) (out : List UInt8) (pts : List Int) : Bool :=
  if ly.all okK = false then true
  else fitV (fitR (s0 ib ly) steps T) T.length steps.length out pts
/-- what a run of the reference keeps -/
structure OkI (Ok : Nat → SS → Prop) : Prop where
  sin : ∀ i s, Ok i s → Sin s
  sm : ∀ i s, Ok i s → ∀ y ∈ s.ys, y.small
  st : ∀ i s (x : Stp), Ok i s → i < 200 → x.few → Ok (i + 1) (doF s x.d x.off x.n x.bs).1
  w : ∀ i s (x : Stp), Ok i s → i < 200 → x.few → (doF s x.d x.off x.n x.bs).2.1.b.length ≤ 10000000
theorem fitR_cons (s : SS) (st : Stp) (l : List Stp) (T : List Tld) : fitR s (st :: l) T = if (doF s st.d st.off st.n st.bs).1.ls = true ∧ (doF s st.d st.off st.n st.bs).2.2 = false then .inl true else match T with | [] => .inl false | td :: T' => if (doF s st.d st.off st.n st.bs).2.2 = true ∧ toldF (doF s st.d st.off st.n st.bs).2.1 td.e td.q td.dat st.d = false then .inl false else if (doF s st.d st.off st.n st.bs).1.ls = true then .inl true else fitR (doF s st.d st.off st.n st.bs).1 l T' := by conv => lhs; unfold fitR
theorem fitR_nil (s : SS) (T : List Tld) : fitR s [] T = .inr s := by unfold fitR; rfl
theorem ints_get (l : List Int) (i : Nat) : (ints l)[i]? = (l[i]?).map (Value.int .i64) := by simp [ints]
theorem drop_at {α : Type} {l : List α} {i : Nat} {x : α} (h : l[i]? = some x) : l.drop i = x :: l.drop (i + 1) := by
  obtain ⟨h1, rfl⟩ := List.getElem?_eq_some_iff.1 h
  exact List.drop_eq_getElem_cons h1
theorem src_slc {L : List HP} {size k : Nat} {v : Value} {l : List Value} (h : Src L size v k l) : ∃ a c, v = .slice a k c := by
  cases h with
  | nil => exact ⟨_, _, rfl⟩
  | emp _ _ => exact ⟨_, _, rfl⟩
  | some b o _ _ _ hl hr => exact ⟨_, _, rfl⟩
/-- where the walk stands -/
structure FSt where
  i : Nat
  s : SS
  xs : List LV
  es : List LE
  Z : HP
  la : Option Addr
  lc : Nat
  pa : Option Addr
  pc : Nat
attribute [local irreducible] wpList Code.wp Exit.then Exit.inBlock bodyPost RunS RunV G St Ct Sat Ent At Rd GQ QL wpAny wpOp wpQuiet slP Sl.ex sep
end Go.Proofs.YtfebpbflpdppiaaGreatDoor
