/- The reference's steps: sync, and what is none of them · The reference's steps: reads · The reference's steps: truncations, punches. -/
import Derived.Test.YtfebpbflpdppiaaGreatDoorL17
namespace Go.Proofs.YtfebpbflpdppiaaGreatDoor
open Go Go.Sl
set_option maxRecDepth 100000
attribute [local irreducible] wpList Code.wp Exit.then Exit.inBlock bodyPost RunS RunV G St Ct Sat Ent At Rd GQ QL wpAny wpOp wpQuiet slP Sl.ex sep
section
variable {Z I : HP} {sb lb lcap pc lc : Nat} {pa la : Option Addr} {rest : List Value} {xs : List LV} {es : List LE} {s : SS}
set_option maxHeartbeats 4000000 in
theorem doSync_c (hv : SV xs es Z la lc s) (hs : Sin s) (off n : Int) (ho : -1099511627776 ≤ off ∧ off ≤ 65536) (hn : -1099511627776 ≤ n ∧ n ≤ 65536) (bs : List UInt8) (da : Option Addr) (dc : Nat) (_hd : Src [I] 1 (.slice da bs.length dc) bs.length (u8s bs)) (_hbl : bs.length ≤ 131072) (hls : s.ls = false) (ho2 : ¬ off < -262144) (hn2 : ¬ n < -262144) (hsh : shortF s.ys = false) :
    Ct Tryz.prog 29 #[.pointer (some ⟨sb, 0, none⟩), .string sSync, .int .i64 off, .int .i64 n, .slice da bs.length dc] (SH sb lb lcap rest xs es Z la lc pa pc s.pts s.ls s.vg s.ms ++ [I])
      (DoR Z I sb lb lcap rest xs.length (s, w0, true)) nev := by
  have hxl : xs.length = s.ys.length := by rw [← hv.ys, List.length_map]
  have hl0 : 0 < xs.length := by have := hs.l0; omega
  have hl1 : xs.length ≤ 1000 := by have := hs.l1; omega
  have hB : StB xs := fun k x hx => hs.bs k x.y (by rw [← hv.ys, List.getElem?_map, hx]; rfl)
  have hK : lastK s = xs.length - 1 := by unfold lastK; rw [hxl]
  have hsc := short_c (sb := sb) (lb := lb) (lcap := lcap) (rest := rest) (p1 := .slice pa s.pts.length pc) (p2 := .bool false) (p3 := .bool s.vg) (p4 := .bool s.ms) (xs := xs) hl1 hl0 hv.ok hB
  have hsz := size_c (sb := sb) (lb := lb) (lcap := lcap) (rest := rest) (p1 := .slice pa s.pts.length pc) (p2 := .bool false) (p3 := .bool s.vg) (p4 := .bool s.ms) (xs := xs) hl1 hv.ok hB (xs.length - 1) (by omega)
  have hsb := sizeF_bd hv.ok (lastK s)
  rw [hv.ys, hsh] at hsc
  rw [hv.ys, ← hK] at hsz
  rw [hv.ys] at hsb
  have hK9 : lastK s ≤ 999 := by omega
  unfold SH
  rw [hls]
  refine Ct.of Tryz.func29 rfl Tryz.ntmps29 rfl fun m F => ?_
  repeat (first | refine wZ ?_ | intro b)
  revert b; intro wb
  rw [decide_eq_false (by omega : ¬ 262144 < off)]
  repeat (first | refine wZ ?_ | intro b)
  rw [decide_eq_false (by omega : ¬ 262144 < n)]
  repeat (first | refine wZ ?_ | intro b)
  rw [decide_eq_false ho2]
  repeat (first | refine wZ ?_ | intro b)
  rw [decide_eq_false hn2]
  repeat (first | refine wZ ?_ | intro b)
  refine l_yes rfl rfl rfl (s_call rfl rfl hsc [1, 1] rfl ?_ (fun _ _ h => h.elim))
  rintro _ _ ⟨rfl, rfl⟩
  repeat (first | refine wZ ?_ | intro b)
  rw [← hK]
  refine l_plain rfl (s_call rfl rfl hsz [0, 0] rfl ?_ (fun _ _ h => h.elim))
  rintro _ _ ⟨rfl, rfl⟩
  refine G.ent (L' := blk wb (cl (wCells w0 none 0) 70) :: blk sb (cl [.slice (some ⟨lb, 0, none⟩) xs.length lcap, .slice pa s.pts.length pc, .bool false, .bool s.vg, .bool s.ms] 75) :: blk lb (cl (xs.flatMap lvCells ++ rest) 80) :: Z :: slG (.slice la es.length lc) 139 2 (es.flatMap leCells) :: slP (.slice pa s.pts.length pc) 2 1 (ints s.pts) :: I :: F) (arr_ent 0 [2, 0, 0] _) ?_
  repeat (first | refine wZ ?_ | intro b)
  exact do_ret (w := w0) (wa := none) (wc := 0) (s := s) rfl rfl rfl hls Src.nil rfl hv (Ent.refl _)
set_option maxHeartbeats 4000000 in
theorem doElse_c (hv : SV xs es Z la lc s) (hs : Sin s) (off n : Int) (ho : -1099511627776 ≤ off ∧ off ≤ 65536) (hn : -1099511627776 ≤ n ∧ n ≤ 65536) (bs : List UInt8) (da : Option Addr) (dc : Nat) (_hd : Src [I] 1 (.slice da bs.length dc) bs.length (u8s bs)) (_hbl : bs.length ≤ 131072) (hls : s.ls = false) (ho2 : ¬ off < -262144) (hn2 : ¬ n < -262144) (hsh : shortF s.ys = false) (d : ByteArray) (h0 : d ≠ sWrite) (h1 : d ≠ sRead) (h2 : d ≠ sSize) (h3 : d ≠ sTrunc) (h4 : d ≠ sPunch) (h5 : d ≠ sBegin) (h6 : d ≠ sEnd) (h7 : d ≠ sRoll) (h8 : d ≠ sSync) :
    Ct Tryz.prog 29 #[.pointer (some ⟨sb, 0, none⟩), .string d, .int .i64 off, .int .i64 n, .slice da bs.length dc] (SH sb lb lcap rest xs es Z la lc pa pc s.pts s.ls s.vg s.ms ++ [I])
      (DoR Z I sb lb lcap rest xs.length ({ s with ls := true }, w0, false)) nev := by
  have hxl : xs.length = s.ys.length := by rw [← hv.ys, List.length_map]
  have hl0 : 0 < xs.length := by have := hs.l0; omega
  have hl1 : xs.length ≤ 1000 := by have := hs.l1; omega
  have hB : StB xs := fun k x hx => hs.bs k x.y (by rw [← hv.ys, List.getElem?_map, hx]; rfl)
  have hK : lastK s = xs.length - 1 := by unfold lastK; rw [hxl]
  have hsc := short_c (sb := sb) (lb := lb) (lcap := lcap) (rest := rest) (p1 := .slice pa s.pts.length pc) (p2 := .bool false) (p3 := .bool s.vg) (p4 := .bool s.ms) (xs := xs) hl1 hl0 hv.ok hB
  have hsz := size_c (sb := sb) (lb := lb) (lcap := lcap) (rest := rest) (p1 := .slice pa s.pts.length pc) (p2 := .bool false) (p3 := .bool s.vg) (p4 := .bool s.ms) (xs := xs) hl1 hv.ok hB (xs.length - 1) (by omega)
  have hsb := sizeF_bd hv.ok (lastK s)
  rw [hv.ys, hsh] at hsc
  rw [hv.ys, ← hK] at hsz
  rw [hv.ys] at hsb
  have hK9 : lastK s ≤ 999 := by omega
  unfold SH
  rw [hls]
  refine Ct.of Tryz.func29 rfl Tryz.ntmps29 rfl fun m F => ?_
  repeat (first | refine wZ ?_ | intro b)
  revert b; intro wb
  rw [decide_eq_false (by omega : ¬ 262144 < off)]
  repeat (first | refine wZ ?_ | intro b)
  rw [decide_eq_false (by omega : ¬ 262144 < n)]
  repeat (first | refine wZ ?_ | intro b)
  rw [decide_eq_false ho2]
  repeat (first | refine wZ ?_ | intro b)
  rw [decide_eq_false hn2]
  repeat (first | refine wZ ?_ | intro b)
  refine l_yes rfl rfl rfl (s_call rfl rfl hsc [1, 1] rfl ?_ (fun _ _ h => h.elim))
  rintro _ _ ⟨rfl, rfl⟩
  repeat (first | refine wZ ?_ | intro b)
  rw [← hK]
  refine l_plain rfl (s_call rfl rfl hsz [0, 0] rfl ?_ (fun _ _ h => h.elim))
  rintro _ _ ⟨rfl, rfl⟩
  refine G.ent (L' := blk wb (cl (wCells w0 none 0) 70) :: blk sb (cl [.slice (some ⟨lb, 0, none⟩) xs.length lcap, .slice pa s.pts.length pc, .bool false, .bool s.vg, .bool s.ms] 75) :: blk lb (cl (xs.flatMap lvCells ++ rest) 80) :: Z :: slG (.slice la es.length lc) 139 2 (es.flatMap leCells) :: slP (.slice pa s.pts.length pc) 2 1 (ints s.pts) :: I :: F) (arr_ent 0 [2, 0, 0] _) ?_
  have hv2 : SV xs es Z la lc { s with ls := true } := ⟨hv.ys, hv.ok, hv.le, hv.top⟩
  repeat (first | refine wZ ?_ | intro b)
  rw [show (d.data.toList == [119, 114, 105, 116, 101]) = false from ne_lit h0]
  repeat (first | refine wZ ?_ | intro b)
  rw [show (d.data.toList == [114, 101, 97, 100]) = false from ne_lit h1]
  repeat (first | refine wZ ?_ | intro b)
  rw [show (d.data.toList == [115, 105, 122, 101]) = false from ne_lit h2]
  repeat (first | refine wZ ?_ | intro b)
  rw [show (d.data.toList == [116, 114, 117, 110, 99, 97, 116, 101]) = false from ne_lit h3]
  repeat (first | refine wZ ?_ | intro b)
  rw [show (d.data.toList == [112, 117, 110, 99, 104]) = false from ne_lit h4]
  repeat (first | refine wZ ?_ | intro b)
  rw [show (d.data.toList == [98, 101, 103, 105, 110]) = false from ne_lit h5]
  repeat (first | refine wZ ?_ | intro b)
  rw [show (d.data.toList == [101, 110, 100]) = false from ne_lit h6]
  repeat (first | refine wZ ?_ | intro b)
  rw [show (d.data.toList == [114, 111, 108, 108, 98, 97, 99, 107]) = false from ne_lit h7]
  repeat (first | refine wZ ?_ | intro b)
  rw [show (d.data.toList == [115, 121, 110, 99]) = false from ne_lit h8]
  repeat (first | refine wZ ?_ | intro b)
  exact do_ret (w := w0) (wa := none) (wc := 0) (s := { s with ls := true }) rfl rfl rfl rfl Src.nil rfl hv2 (Ent.refl _)
set_option maxHeartbeats 4000000 in
theorem doSize_c (hv : SV xs es Z la lc s) (hs : Sin s) (off n : Int) (ho : -1099511627776 ≤ off ∧ off ≤ 65536) (hn : -1099511627776 ≤ n ∧ n ≤ 65536) (bs : List UInt8) (da : Option Addr) (dc : Nat) (_hd : Src [I] 1 (.slice da bs.length dc) bs.length (u8s bs)) (_hbl : bs.length ≤ 131072) (hls : s.ls = false) (ho2 : ¬ off < -262144) (hn2 : ¬ n < -262144) (hsh : shortF s.ys = false) :
    Ct Tryz.prog 29 #[.pointer (some ⟨sb, 0, none⟩), .string sSize, .int .i64 off, .int .i64 n, .slice da bs.length dc] (SH sb lb lcap rest xs es Z la lc pa pc s.pts s.ls s.vg s.ms ++ [I])
      (DoR Z I sb lb lcap rest xs.length (s, ⟨0, sizeF s.ys (lastK s), []⟩, true)) nev := by
  have hxl : xs.length = s.ys.length := by rw [← hv.ys, List.length_map]
  have hl0 : 0 < xs.length := by have := hs.l0; omega
  have hl1 : xs.length ≤ 1000 := by have := hs.l1; omega
  have hB : StB xs := fun k x hx => hs.bs k x.y (by rw [← hv.ys, List.getElem?_map, hx]; rfl)
  have hK : lastK s = xs.length - 1 := by unfold lastK; rw [hxl]
  have hsc := short_c (sb := sb) (lb := lb) (lcap := lcap) (rest := rest) (p1 := .slice pa s.pts.length pc) (p2 := .bool false) (p3 := .bool s.vg) (p4 := .bool s.ms) (xs := xs) hl1 hl0 hv.ok hB
  have hsz := size_c (sb := sb) (lb := lb) (lcap := lcap) (rest := rest) (p1 := .slice pa s.pts.length pc) (p2 := .bool false) (p3 := .bool s.vg) (p4 := .bool s.ms) (xs := xs) hl1 hv.ok hB (xs.length - 1) (by omega)
  have hsb := sizeF_bd hv.ok (lastK s)
  rw [hv.ys, hsh] at hsc
  rw [hv.ys, ← hK] at hsz
  rw [hv.ys] at hsb
  have hK9 : lastK s ≤ 999 := by omega
  unfold SH
  rw [hls]
  refine Ct.of Tryz.func29 rfl Tryz.ntmps29 rfl fun m F => ?_
  repeat (first | refine wZ ?_ | intro b)
  revert b; intro wb
  rw [decide_eq_false (by omega : ¬ 262144 < off)]
  repeat (first | refine wZ ?_ | intro b)
  rw [decide_eq_false (by omega : ¬ 262144 < n)]
  repeat (first | refine wZ ?_ | intro b)
  rw [decide_eq_false ho2]
  repeat (first | refine wZ ?_ | intro b)
  rw [decide_eq_false hn2]
  repeat (first | refine wZ ?_ | intro b)
  refine l_yes rfl rfl rfl (s_call rfl rfl hsc [1, 1] rfl ?_ (fun _ _ h => h.elim))
  rintro _ _ ⟨rfl, rfl⟩
  repeat (first | refine wZ ?_ | intro b)
  rw [← hK]
  refine l_plain rfl (s_call rfl rfl hsz [0, 0] rfl ?_ (fun _ _ h => h.elim))
  rintro _ _ ⟨rfl, rfl⟩
  refine G.ent (L' := blk wb (cl (wCells w0 none 0) 70) :: blk sb (cl [.slice (some ⟨lb, 0, none⟩) xs.length lcap, .slice pa s.pts.length pc, .bool false, .bool s.vg, .bool s.ms] 75) :: blk lb (cl (xs.flatMap lvCells ++ rest) 80) :: Z :: slG (.slice la es.length lc) 139 2 (es.flatMap leCells) :: slP (.slice pa s.pts.length pc) 2 1 (ints s.pts) :: I :: F) (arr_ent 0 [2, 0, 0] _) ?_
  repeat (first | refine wZ ?_ | intro b)
  exact do_ret (w := ⟨0, sizeF s.ys (lastK s), []⟩) (wa := none) (wc := 0) (s := s) rfl rfl rfl hls Src.nil rfl hv (Ent.refl _)
end
end Go.Proofs.YtfebpbflpdppiaaGreatDoor
namespace Go.Proofs.YtfebpbflpdppiaaGreatDoor
open Go Go.Sl
set_option maxRecDepth 100000
attribute [local irreducible] wpList Code.wp Exit.then Exit.inBlock bodyPost RunS RunV G St Ct Sat Ent At Rd GQ QL wpAny wpOp wpQuiet slP Sl.ex sep
section
variable {Z I : HP} {sb lb lcap pc lc : Nat} {pa la : Option Addr} {rest : List Value} {xs : List LV} {es : List LE} {s : SS}
set_option maxHeartbeats 8000000 in
theorem doRead_c (hv : SV xs es Z la lc s) (hs : Sin s) (off n : Int) (ho : -1099511627776 ≤ off ∧ off ≤ 65536) (hn : -1099511627776 ≤ n ∧ n ≤ 65536) (bs : List UInt8) (da : Option Addr) (dc : Nat) (_hd : Src [I] 1 (.slice da bs.length dc) bs.length (u8s bs)) (_hbl : bs.length ≤ 131072) (hls : s.ls = false) (ho2 : ¬ off < -262144) (hn2 : ¬ n < -262144) (hsh : shortF s.ys = false) :
    Ct Tryz.prog 29 #[.pointer (some ⟨sb, 0, none⟩), .string sRead, .int .i64 off, .int .i64 n, .slice da bs.length dc] (SH sb lb lcap rest xs es Z la lc pa pc s.pts s.ls s.vg s.ms ++ [I])
      (DoR Z I sb lb lcap rest xs.length (doRd s off n)) nev := by
  have hxl : xs.length = s.ys.length := by rw [← hv.ys, List.length_map]
  have hl0 : 0 < xs.length := by have := hs.l0; omega
  have hl1 : xs.length ≤ 1000 := by have := hs.l1; omega
  have hB : StB xs := fun k x hx => hs.bs k x.y (by rw [← hv.ys, List.getElem?_map, hx]; rfl)
  have hK : lastK s = xs.length - 1 := by unfold lastK; rw [hxl]
  have hsc := short_c (sb := sb) (lb := lb) (lcap := lcap) (rest := rest) (p1 := .slice pa s.pts.length pc) (p2 := .bool false) (p3 := .bool s.vg) (p4 := .bool s.ms) (xs := xs) hl1 hl0 hv.ok hB
  have hsz := size_c (sb := sb) (lb := lb) (lcap := lcap) (rest := rest) (p1 := .slice pa s.pts.length pc) (p2 := .bool false) (p3 := .bool s.vg) (p4 := .bool s.ms) (xs := xs) hl1 hv.ok hB (xs.length - 1) (by omega)
  have hsb := sizeF_bd hv.ok (lastK s)
  rw [hv.ys, hsh] at hsc
  rw [hv.ys, ← hK] at hsz
  rw [hv.ys] at hsb
  have hK9 : lastK s ≤ 999 := by omega
  unfold SH
  rw [hls]
  refine Ct.of Tryz.func29 rfl Tryz.ntmps29 rfl fun m F => ?_
  repeat (first | refine wZ ?_ | intro b)
  revert b; intro wb
  rw [decide_eq_false (by omega : ¬ 262144 < off)]
  repeat (first | refine wZ ?_ | intro b)
  rw [decide_eq_false (by omega : ¬ 262144 < n)]
  repeat (first | refine wZ ?_ | intro b)
  rw [decide_eq_false ho2]
  repeat (first | refine wZ ?_ | intro b)
  rw [decide_eq_false hn2]
  repeat (first | refine wZ ?_ | intro b)
  refine l_yes rfl rfl rfl (s_call rfl rfl hsc [1, 1] rfl ?_ (fun _ _ h => h.elim))
  rintro _ _ ⟨rfl, rfl⟩
  repeat (first | refine wZ ?_ | intro b)
  rw [← hK]
  refine l_plain rfl (s_call rfl rfl hsz [0, 0] rfl ?_ (fun _ _ h => h.elim))
  rintro _ _ ⟨rfl, rfl⟩
  refine G.ent (L' := blk wb (cl (wCells w0 none 0) 70) :: blk sb (cl [.slice (some ⟨lb, 0, none⟩) xs.length lcap, .slice pa s.pts.length pc, .bool false, .bool s.vg, .bool s.ms] 75) :: blk lb (cl (xs.flatMap lvCells ++ rest) 80) :: Z :: slG (.slice la es.length lc) 139 2 (es.flatMap leCells) :: slP (.slice pa s.pts.length pc) 2 1 (ints s.pts) :: I :: F) (arr_ent 0 [2, 0, 0] _) ?_
  have hv2 : SV xs es Z la lc { s with ls := true } := ⟨hv.ys, hv.ok, hv.le, hv.top⟩
  repeat (first | refine wZ ?_ | intro b)
  unfold doRd
  by_cases hn1 : n < 1
  · rw [decide_eq_true hn1, if_pos hn1]
    have hv3 : SV xs es Z la lc { s with ls := decide (n < 0) } := ⟨hv.ys, hv.ok, hv.le, hv.top⟩
    repeat (first | refine wZ ?_ | intro b)
    exact do_ret (w := w0) (wa := none) (wc := 0) (s := { s with ls := decide (n < 0) }) rfl rfl rfl rfl Src.nil rfl hv3 (Ent.refl _)
  rw [decide_eq_false hn1, if_neg hn1]
  repeat (first | refine wZ ?_ | intro b)
  by_cases ho1 : off < 0
  · rw [decide_eq_true ho1, if_pos ho1]
    repeat (first | refine wZ ?_ | intro b)
    refine l_plain rfl ?_
    apply s_val rfl rfl
    · exact RunS.v (r_build (cells := (wCells ⟨-1, 0, []⟩ none 0).toArray) rfl (by kernel_rfl))
    repeat (first | refine wZ ?_ | intro b)
    exact do_ret (w := ⟨-1, 0, []⟩) (wa := none) (wc := 0) (s := s) rfl rfl rfl hls Src.nil rfl hv (Ent.refl _)
  rw [decide_eq_false ho1, if_neg ho1]
  obtain ⟨o, rfl⟩ : ∃ o : Nat, off = o := ⟨off.toNat, by omega⟩
  obtain ⟨nn, rfl⟩ : ∃ nn : Nat, n = nn := ⟨n.toNat, by omega⟩
  have hvw := view_c (sb := sb) (lb := lb) (lcap := lcap) (rest := rest) (p1 := .slice pa s.pts.length pc) (p2 := .bool false) (p3 := .bool s.vg) (p4 := .bool s.ms) (xs := xs) hl1 hv.ok hB (lastK s) (by omega)
  have hvb := viewF_le hv.ok (lastK s)
  have htp := top_c (sb := sb) (lb := lb) (lcap := lcap) (rest := rest) (p1 := .slice pa s.pts.length pc) (p2 := .bool false) (p3 := .bool s.vg) (p4 := .bool s.ms) (xs := xs) hl1 hl0
  rw [hv.ys] at hvw hvb htp
  rw [show ((o : Int) + (nn : Int)).toNat = o + nn from by omega, Int.toNat_natCast]
  unfold rdE
  generalize viewF s.ys (lastK s) = p at hvw hvb ⊢
  repeat (first | refine wZ ?_ | intro b)
  refine l_plain rfl (s_call rfl rfl hvw [1, 1] rfl ?_ (fun _ _ h => h.elim))
  rintro _ _ ⟨⟨a, c, rfl, hp1, hp2⟩, rfl⟩
  repeat (first | refine wZ ?_ | intro b)
  rw [show min ((o : Nat) : Int) ((p.length : Nat) : Int) = ((min o p.length : Nat) : Int) from by omega, show min ((o + nn : Nat) : Int) ((p.length : Nat) : Int) = ((min (o + nn) p.length : Nat) : Int) from by omega]
  have hft : min o p.length ≤ min (o + nn) p.length := by omega
  have htl : min (o + nn) p.length ≤ p.length := by omega
  generalize min o p.length = fr at hft ⊢
  generalize min (o + nn) p.length = to at hft htl ⊢
  have hsl := Src.lo (Src.hi (hi := to) hp2 htl) (by omega) hft
  refine l_plain rfl ?_
  apply s_val (v := .slice (if c = fr then a else a.map (·.add (fr * 1))) (to - fr) (c - fr)) rfl rfl
  · exact RunS.v (r_slLHN rfl rfl rfl hft (by omega))
  generalize (if c = fr then a else a.map (·.add (fr * 1))) = A at hsl ⊢
  rw [Nat.mul_one, Nat.mul_one, i16s_take, i16s_drop] at hsl
  repeat (first | refine wZ ?_ | intro b)
  have hql : ((p.take to).drop fr).length = to - fr := by simp; omega
  generalize (p.take to).drop fr = q at hsl hql ⊢
  generalize c - fr = cA at hsl ⊢
  rw [← hql] at hsl ⊢
  have hE1 : ∃ e1 : Int, e1 = if ((q.length : Nat) : Int) < (nn : Int) then 1 else 0 := ⟨_, rfl⟩
  obtain ⟨e1, hE1⟩ := hE1
  rw [← hE1]
  refine c_mid (α := Unit) (fun _ => [(0, .pointer (some ⟨sb, 0, none⟩)), (10, .pointer (some ⟨wb, 0, none⟩)), (11, .bool false), (14, .slice a p.length c), (16, .int .i64 (to : Nat))])
    (fun _ => blk wb (cl (wCells ⟨e1, (q.length : Nat), q⟩ A cA) 70) :: blk sb (cl [.slice (some ⟨lb, 0, none⟩) xs.length lcap, .slice pa s.pts.length pc, .bool false, .bool s.vg, .bool s.ms] 75) :: blk lb (cl (xs.flatMap lvCells ++ rest) 80) :: Z :: slG (.slice la es.length lc) 139 2 (es.flatMap leCells) :: slP (.slice pa s.pts.length pc) 2 1 (ints s.pts) :: I :: F) (fun _ => True) ?_ ?_
  · by_cases hlt : ((q.length : Nat) : Int) < (nn : Int)
    · rw [decide_eq_true hlt]
      rw [if_pos hlt] at hE1
      subst hE1
      repeat (first | refine wZ ?_ | intro b)
      exact at_intro () trivial ⟨rfl, rfl, rfl, rfl, rfl, trivial⟩ (Ent.refl _)
    · rw [decide_eq_false hlt]
      rw [if_neg hlt] at hE1
      subst hE1
      repeat (first | refine wZ ?_ | intro b)
      exact at_intro () trivial ⟨rfl, rfl, rfl, rfl, rfl, trivial⟩ (Ent.refl _)
  intro _ _
  repeat (first | refine wZ ?_ | intro b)
  refine l_plain rfl (s_call rfl rfl htp [1, 1] rfl ?_ (fun _ _ h => h.elim))
  rintro _ _ ⟨rfl, rfl⟩
  have htl2 : topF s.ys < xs.length := by
    rw [hxl]
    exact topF_lt hs.l0
  have hin : inT s = match s.ys[topF s.ys]? with | some x => decide (0 < x.levels.length) | none => false := rfl
  generalize topF s.ys = t at htl2 hin ⊢
  obtain ⟨x, hx⟩ : ∃ x, xs[t]? = some x := ⟨xs[t], List.getElem?_eq_getElem htl2⟩
  rw [← hv.ys, List.getElem?_map, hx] at hin
  dsimp only [Option.map_some] at hin
  rw [hin]
  repeat (first | refine wZ ?_ | intro b)
  by_cases ht0 : 0 < t
  · rw [decide_eq_true (by omega : (0 : Int) < (t : Nat))]
    repeat (first | refine wZ ?_ | intro b)
    by_cases hto : to = p.length
    · rw [decide_eq_true (by omega : ((to : Nat) : Int) = (p.length : Nat))]
      repeat (first | refine wZ ?_ | intro b)
      refine l_yes rfl rfl rfl ?_
      apply s_val rfl rfl
      · exact RunS.v (r_index (i := t) rfl rfl rfl htl2)
      repeat (first | refine wZ ?_ | intro b)
      refine l_yes rfl rfl rfl ?_
      apply s_val (v := .slice x.la x.y.levels.length x.lc) rfl rfl
      · exact r_load rfl rfl (rd_blk 1 rfl (lc_get hx 5 (by decide)))
      repeat (first | refine wZ ?_ | intro b)
      by_cases hlv : 0 < x.y.levels.length
      · rw [decide_eq_true (by omega : (0 : Int) < (x.y.levels.length : Nat)), if_pos (by simp [ht0, hto, hlv])]
        repeat (first | refine wZ ?_ | intro b)
        exact do_ret (w := ⟨-2, (q.length : Nat), q⟩) (wa := A) (wc := cA) (s := s) rfl rfl rfl hls hsl rfl hv (Ent.refl _)
      · rw [decide_eq_false (by omega : ¬ (0 : Int) < (x.y.levels.length : Nat)), if_neg (by simp [hlv])]
        repeat (first | refine wZ ?_ | intro b)
        exact do_ret (w := ⟨e1, (q.length : Nat), q⟩) (wa := A) (wc := cA) (s := s) rfl rfl rfl hls hsl rfl hv (Ent.refl _)
    · rw [decide_eq_false (by omega : ¬ ((to : Nat) : Int) = (p.length : Nat)), if_neg (by simp [hto])]
      repeat (first | refine wZ ?_ | intro b)
      exact do_ret (w := ⟨e1, (q.length : Nat), q⟩) (wa := A) (wc := cA) (s := s) rfl rfl rfl hls hsl rfl hv (Ent.refl _)
  · rw [decide_eq_false (by omega : ¬ (0 : Int) < (t : Nat)), if_neg (by simp [ht0])]
    repeat (first | refine wZ ?_ | intro b)
    exact do_ret (w := ⟨e1, (q.length : Nat), q⟩) (wa := A) (wc := cA) (s := s) rfl rfl rfl hls hsl rfl hv (Ent.refl _)
end
end Go.Proofs.YtfebpbflpdppiaaGreatDoor
namespace Go.Proofs.YtfebpbflpdppiaaGreatDoor
open Go Go.Sl
set_option maxRecDepth 100000
theorem SV_of {xs xs' : List LV} {es : List LE} {Z Z' : HP} {la : Option Addr} {lc : Nat} {s s' : SS} (hv : SV xs es Z la lc s) (h1 : xs'.map (·.y) = s'.ys) (hk : s'.ys.map (fun x => (x.kd, x.off, x.levels)) = s.ys.map (fun x => (x.kd, x.off, x.levels))) (h2 : xs'.map LV.lac = xs.map LV.lac) (ok : ∀ x ∈ xs', LVok Z' x) (e : Ent [Z'] [Z]) : SV xs' es Z' la lc s' := by
  refine ⟨h1, ok, fun l hl => (hv.le l hl).ent e, fun x' hx' => ?_⟩
  have ht : topF s'.ys = topF s.ys := topF_congr (map_of (f := fun x : Ly => (x.kd, x.off, x.levels)) (fun p => p.1) hk)
  rw [ht] at hx'
  have hlt : topF s.ys < xs.length := by
    have a := congrArg List.length h2
    rw [List.length_map, List.length_map] at a
    have := (List.getElem?_eq_some_iff.1 hx').1
    omega
  obtain ⟨x, hx⟩ : ∃ x, xs[topF s.ys]? = some x := ⟨xs[topF s.ys], List.getElem?_eq_getElem hlt⟩
  have t := hv.top x hx
  have e1 : (xs'.map LV.lac)[topF s.ys]? = some x'.lac := by rw [List.getElem?_map, hx']; rfl
  rw [h2, List.getElem?_map, hx] at e1
  have e2 : (s'.ys.map (fun x => (x.kd, x.off, x.levels)))[topF s.ys]? = some (x'.y.kd, x'.y.off, x'.y.levels) := by rw [← h1, List.getElem?_map, List.getElem?_map, hx']; rfl
  have e3 : ∀ i : Nat, s.ys[i]? = (xs[i]?).map (fun x : LV => x.y) := fun i => by rw [← hv.ys, List.getElem?_map]
  rw [hk, List.getElem?_map, e3, hx] at e2
  unfold LV.lac at e1
  simp only [Option.map_some, Option.some.injEq, Prod.mk.injEq] at e1 e2
  exact ⟨e2.2.2.symm.trans t.1, e1.1.symm.trans t.2.1, e1.2.symm.trans t.2.2⟩
attribute [local irreducible] wpList Code.wp Exit.then Exit.inBlock bodyPost RunS RunV G St Ct Sat Ent At Rd GQ QL wpAny wpOp wpQuiet slP Sl.ex sep
section
variable {Z I : HP} {sb lb lcap pc lc : Nat} {pa la : Option Addr} {rest : List Value} {xs : List LV} {es : List LE} {s : SS}
set_option maxHeartbeats 8000000 in
theorem doTrunc_c (hv : SV xs es Z la lc s) (hs : Sin s) (off n : Int) (ho : -1099511627776 ≤ off ∧ off ≤ 65536) (hn : -1099511627776 ≤ n ∧ n ≤ 65536) (bs : List UInt8) (da : Option Addr) (dc : Nat) (_hd : Src [I] 1 (.slice da bs.length dc) bs.length (u8s bs)) (_hbl : bs.length ≤ 131072) (hls : s.ls = false) (ho2 : ¬ off < -262144) (hn2 : ¬ n < -262144) (hsh : shortF s.ys = false) (hres : ∀ y ∈ (doTr s n).1.ys, y.small) :
    Ct Tryz.prog 29 #[.pointer (some ⟨sb, 0, none⟩), .string sTrunc, .int .i64 off, .int .i64 n, .slice da bs.length dc] (SH sb lb lcap rest xs es Z la lc pa pc s.pts s.ls s.vg s.ms ++ [I])
      (DoR Z I sb lb lcap rest xs.length (doTr s n)) nev := by
  have hxl : xs.length = s.ys.length := by rw [← hv.ys, List.length_map]
  have hl0 : 0 < xs.length := by have := hs.l0; omega
  have hl1 : xs.length ≤ 1000 := by have := hs.l1; omega
  have hB : StB xs := fun k x hx => hs.bs k x.y (by rw [← hv.ys, List.getElem?_map, hx]; rfl)
  have hK : lastK s = xs.length - 1 := by unfold lastK; rw [hxl]
  have hsc := short_c (sb := sb) (lb := lb) (lcap := lcap) (rest := rest) (p1 := .slice pa s.pts.length pc) (p2 := .bool false) (p3 := .bool s.vg) (p4 := .bool s.ms) (xs := xs) hl1 hl0 hv.ok hB
  have hsz := size_c (sb := sb) (lb := lb) (lcap := lcap) (rest := rest) (p1 := .slice pa s.pts.length pc) (p2 := .bool false) (p3 := .bool s.vg) (p4 := .bool s.ms) (xs := xs) hl1 hv.ok hB (xs.length - 1) (by omega)
  have hsb := sizeF_bd hv.ok (lastK s)
  rw [hv.ys, hsh] at hsc
  rw [hv.ys, ← hK] at hsz
  rw [hv.ys] at hsb
  have hK9 : lastK s ≤ 999 := by omega
  unfold SH
  rw [hls]
  refine Ct.of Tryz.func29 rfl Tryz.ntmps29 rfl fun m F => ?_
  repeat (first | refine wZ ?_ | intro b)
  revert b; intro wb
  rw [decide_eq_false (by omega : ¬ 262144 < off)]
  repeat (first | refine wZ ?_ | intro b)
  rw [decide_eq_false (by omega : ¬ 262144 < n)]
  repeat (first | refine wZ ?_ | intro b)
  rw [decide_eq_false ho2]
  repeat (first | refine wZ ?_ | intro b)
  rw [decide_eq_false hn2]
  repeat (first | refine wZ ?_ | intro b)
  refine l_yes rfl rfl rfl (s_call rfl rfl hsc [1, 1] rfl ?_ (fun _ _ h => h.elim))
  rintro _ _ ⟨rfl, rfl⟩
  repeat (first | refine wZ ?_ | intro b)
  rw [← hK]
  refine l_plain rfl (s_call rfl rfl hsz [0, 0] rfl ?_ (fun _ _ h => h.elim))
  rintro _ _ ⟨rfl, rfl⟩
  refine G.ent (L' := blk wb (cl (wCells w0 none 0) 70) :: blk sb (cl [.slice (some ⟨lb, 0, none⟩) xs.length lcap, .slice pa s.pts.length pc, .bool false, .bool s.vg, .bool s.ms] 75) :: blk lb (cl (xs.flatMap lvCells ++ rest) 80) :: Z :: slG (.slice la es.length lc) 139 2 (es.flatMap leCells) :: slP (.slice pa s.pts.length pc) 2 1 (ints s.pts) :: I :: F) (arr_ent 0 [2, 0, 0] _) ?_
  have hv2 : SV xs es Z la lc { s with ls := true } := ⟨hv.ys, hv.ok, hv.le, hv.top⟩
  obtain ⟨x, hx⟩ : ∃ x, xs[lastK s]? = some x := ⟨xs[lastK s], List.getElem?_eq_getElem (by omega)⟩
  have hin : isIn s = x.y.kd.isI := by
    unfold isIn
    rw [← hv.ys, List.getElem?_map, hx]
    rfl
  repeat (first | refine wZ ?_ | intro b)
  unfold doTr at hres ⊢
  by_cases hn1 : n < 0
  · rw [decide_eq_true hn1, if_pos hn1]
    repeat (first | refine wZ ?_ | intro b)
    refine l_yes rfl rfl rfl ?_
    apply s_val rfl rfl
    · exact RunS.v (r_index (i := lastK s) rfl rfl rfl (by omega))
    repeat (first | refine wZ ?_ | intro b)
    refine l_yes rfl rfl rfl ?_
    apply s_val (v := .string x.y.kd.s) rfl rfl
    · exact r_load rfl rfl (rd_blk 2 rfl (lc_get hx 0 (by decide)))
    rw [hin]
    cases hkd : x.y.kd with
    | inner =>
      rw [if_pos (by rfl)]
      repeat (first | refine wZ ?_ | intro b)
      exact do_ret (w := w0) (wa := none) (wc := 0) (s := { s with ls := true }) rfl rfl rfl rfl Src.nil rfl hv2 (Ent.refl _)
    | base =>
      rw [if_neg (by simp [KD.isI])]
      repeat (first | refine wZ ?_ | intro b)
      rw [decide_eq_true hn1]
      repeat (first | refine wZ ?_ | intro b)
      refine l_plain rfl ?_
      apply s_val rfl rfl
      · exact RunS.v (r_build (cells := (wCells ⟨-1, 0, []⟩ none 0).toArray) rfl (by kernel_rfl))
      repeat (first | refine wZ ?_ | intro b)
      exact do_ret (w := ⟨-1, 0, []⟩) (wa := none) (wc := 0) (s := s) rfl rfl rfl hls Src.nil rfl hv (Ent.refl _)
    | roll =>
      rw [if_neg (by simp [KD.isI])]
      repeat (first | refine wZ ?_ | intro b)
      rw [decide_eq_true hn1]
      repeat (first | refine wZ ?_ | intro b)
      refine l_plain rfl ?_
      apply s_val rfl rfl
      · exact RunS.v (r_build (cells := (wCells ⟨-1, 0, []⟩ none 0).toArray) rfl (by kernel_rfl))
      repeat (first | refine wZ ?_ | intro b)
      exact do_ret (w := ⟨-1, 0, []⟩) (wa := none) (wc := 0) (s := s) rfl rfl rfl hls Src.nil rfl hv (Ent.refl _)
  rw [decide_eq_false hn1, if_neg hn1]
  rw [if_neg hn1] at hres
  obtain ⟨nn, rfl⟩ : ∃ nn : Nat, n = nn := ⟨n.toNat, by omega⟩
  rw [Int.toNat_natCast] at hres ⊢
  repeat (first | refine wZ ?_ | intro b)
  rw [decide_eq_false hn1]
  repeat (first | refine wZ ?_ | intro b)
  have hch := change_c (sb := sb) (lb := lb) (lcap := lcap) (rest := rest) (p1 := .slice pa s.pts.length pc) (p2 := .bool false) (p3 := .bool s.vg) (ma := s.ms) (xs := xs) hl1 hv.ok hB false [] none 0 Src.nil (Nat.zero_le _) (fun _ => ⟨rfl, rfl, rfl⟩) (lastK s) (by omega) nn (by have := hs.l1; omega) (by rw [hv.ys]; exact hres)
  rw [hv.ys] at hch
  refine l_plain rfl (s_call rfl rfl hch [1, 1, 1] rfl ?_ (fun _ _ h => h.elim))
  rintro _ _ ⟨rfl, xs', Z', g1, ⟨g2, g3⟩, g4, g5, rfl⟩
  repeat (first | refine wZ ?_ | intro b)
  have hv3 : SV xs' es Z' la lc (chS s false nn []) := SV_of hv g1 (chF_kd _ _ _ _ _) g3 g4 g5
  rw [← g2]
  exact do_ret (w := ⟨((chF s.ys (lastK s) false nn []).2.2 : Nat), 0, []⟩) (wa := none) (wc := 0) (s := chS s false nn []) rfl rfl rfl hls Src.nil rfl hv3 g5
set_option maxHeartbeats 8000000 in
theorem doPunch_c (hv : SV xs es Z la lc s) (hs : Sin s) (off n : Int) (ho : -1099511627776 ≤ off ∧ off ≤ 65536) (hn : -1099511627776 ≤ n ∧ n ≤ 65536) (bs : List UInt8) (da : Option Addr) (dc : Nat) (_hd : Src [I] 1 (.slice da bs.length dc) bs.length (u8s bs)) (_hbl : bs.length ≤ 131072) (hls : s.ls = false) (ho2 : ¬ off < -262144) (hn2 : ¬ n < -262144) (hsh : shortF s.ys = false) :
    Ct Tryz.prog 29 #[.pointer (some ⟨sb, 0, none⟩), .string sPunch, .int .i64 off, .int .i64 n, .slice da bs.length dc] (SH sb lb lcap rest xs es Z la lc pa pc s.pts s.ls s.vg s.ms ++ [I])
      (DoR Z I sb lb lcap rest xs.length (doPu s off n)) nev := by
  have hxl : xs.length = s.ys.length := by rw [← hv.ys, List.length_map]
  have hl0 : 0 < xs.length := by have := hs.l0; omega
  have hl1 : xs.length ≤ 1000 := by have := hs.l1; omega
  have hB : StB xs := fun k x hx => hs.bs k x.y (by rw [← hv.ys, List.getElem?_map, hx]; rfl)
  have hK : lastK s = xs.length - 1 := by unfold lastK; rw [hxl]
  have hsc := short_c (sb := sb) (lb := lb) (lcap := lcap) (rest := rest) (p1 := .slice pa s.pts.length pc) (p2 := .bool false) (p3 := .bool s.vg) (p4 := .bool s.ms) (xs := xs) hl1 hl0 hv.ok hB
  have hsz := size_c (sb := sb) (lb := lb) (lcap := lcap) (rest := rest) (p1 := .slice pa s.pts.length pc) (p2 := .bool false) (p3 := .bool s.vg) (p4 := .bool s.ms) (xs := xs) hl1 hv.ok hB (xs.length - 1) (by omega)
  have hsb := sizeF_bd hv.ok (lastK s)
  rw [hv.ys, hsh] at hsc
  rw [hv.ys, ← hK] at hsz
  rw [hv.ys] at hsb
  have hK9 : lastK s ≤ 999 := by omega
  unfold SH
  rw [hls]
  refine Ct.of Tryz.func29 rfl Tryz.ntmps29 rfl fun m F => ?_
  repeat (first | refine wZ ?_ | intro b)
  revert b; intro wb
  rw [decide_eq_false (by omega : ¬ 262144 < off)]
  repeat (first | refine wZ ?_ | intro b)
  rw [decide_eq_false (by omega : ¬ 262144 < n)]
  repeat (first | refine wZ ?_ | intro b)
  rw [decide_eq_false ho2]
  repeat (first | refine wZ ?_ | intro b)
  rw [decide_eq_false hn2]
  repeat (first | refine wZ ?_ | intro b)
  refine l_yes rfl rfl rfl (s_call rfl rfl hsc [1, 1] rfl ?_ (fun _ _ h => h.elim))
  rintro _ _ ⟨rfl, rfl⟩
  repeat (first | refine wZ ?_ | intro b)
  rw [← hK]
  refine l_plain rfl (s_call rfl rfl hsz [0, 0] rfl ?_ (fun _ _ h => h.elim))
  rintro _ _ ⟨rfl, rfl⟩
  refine G.ent (L' := blk wb (cl (wCells w0 none 0) 70) :: blk sb (cl [.slice (some ⟨lb, 0, none⟩) xs.length lcap, .slice pa s.pts.length pc, .bool false, .bool s.vg, .bool s.ms] 75) :: blk lb (cl (xs.flatMap lvCells ++ rest) 80) :: Z :: slG (.slice la es.length lc) 139 2 (es.flatMap leCells) :: slP (.slice pa s.pts.length pc) 2 1 (ints s.pts) :: I :: F) (arr_ent 0 [2, 0, 0] _) ?_
  have hv2 : SV xs es Z la lc { s with ls := true } := ⟨hv.ys, hv.ok, hv.le, hv.top⟩
  have htp := top_c (sb := sb) (lb := lb) (lcap := lcap) (rest := rest) (p1 := .slice pa s.pts.length pc) (p2 := .bool false) (p3 := .bool s.vg) (p4 := .bool s.ms) (xs := xs) hl1 hl0
  rw [hv.ys] at htp
  repeat (first | refine wZ ?_ | intro b)
  unfold doPu
  refine l_plain rfl (s_call rfl rfl htp [1, 1] rfl ?_ (fun _ _ h => h.elim))
  rintro _ _ ⟨rfl, rfl⟩
  have htl2 : topF s.ys < xs.length := by
    rw [hxl]
    exact topF_lt hs.l0
  have hin : inT s = match s.ys[topF s.ys]? with | some x => decide (0 < x.levels.length) | none => false := rfl
  generalize topF s.ys = t at htl2 hin htp ⊢
  obtain ⟨x, hx⟩ : ∃ x, xs[t]? = some x := ⟨xs[t], List.getElem?_eq_getElem htl2⟩
  rw [← hv.ys, List.getElem?_map, hx] at hin
  dsimp only [Option.map_some] at hin
  repeat (first | refine wZ ?_ | intro b)
  by_cases ht0 : t = 0
  · rw [decide_eq_true (by omega : (t : Int) = 0), if_pos ht0]
    repeat (first | refine wZ ?_ | intro b)
    exact do_ret (w := w0) (wa := none) (wc := 0) (s := s) rfl rfl rfl hls Src.nil rfl hv (Ent.refl _)
  rw [decide_eq_false (by omega : ¬ (t : Int) = 0), if_neg ht0]
  rw [hin]
  repeat (first | refine wZ ?_ | intro b)
  refine qt_call rfl rfl htp [0, 0] rfl (Ent.refl _) ?_
  repeat (first | refine wZ ?_ | intro b)
  apply qt_val rfl rfl rfl
  · exact RunS.v (r_index (i := t) rfl rfl rfl htl2)
  repeat (first | refine wZ ?_ | intro b)
  apply qt_val (v := .slice x.la x.y.levels.length x.lc) rfl rfl rfl
  · exact r_load rfl rfl (rd_blk 1 rfl (lc_get hx 5 (by decide)))
  repeat (first | refine wZ ?_ | intro b)
  by_cases hlv : 0 < x.y.levels.length
  · rw [decide_eq_true (by omega : (0 : Int) < (x.y.levels.length : Nat)), if_pos (by simp [hlv])]
    repeat (first | refine wZ ?_ | intro b)
    exact do_ret (w := w0) (wa := none) (wc := 0) (s := { s with ls := true }) rfl rfl rfl rfl Src.nil rfl hv2 (Ent.refl _)
  rw [decide_eq_false (by omega : ¬ (0 : Int) < (x.y.levels.length : Nat)), if_neg (by simp [hlv])]
  repeat (first | refine wZ ?_ | intro b)
  by_cases ho1 : off < 0
  · rw [decide_eq_true ho1, if_pos (Or.inl ho1)]
    repeat (first | refine wZ ?_ | intro b)
    refine l_plain rfl ?_
    apply s_val rfl rfl
    · exact RunS.v (r_build (cells := (wCells ⟨-1, 0, []⟩ none 0).toArray) rfl (by kernel_rfl))
    repeat (first | refine wZ ?_ | intro b)
    exact do_ret (w := ⟨-1, 0, []⟩) (wa := none) (wc := 0) (s := s) rfl rfl rfl hls Src.nil rfl hv (Ent.refl _)
  rw [decide_eq_false ho1]
  repeat (first | refine wZ ?_ | intro b)
  by_cases hn1 : n < 0
  · rw [decide_eq_true hn1, if_pos (Or.inr hn1)]
    repeat (first | refine wZ ?_ | intro b)
    refine l_plain rfl ?_
    apply s_val rfl rfl
    · exact RunS.v (r_build (cells := (wCells ⟨-1, 0, []⟩ none 0).toArray) rfl (by kernel_rfl))
    repeat (first | refine wZ ?_ | intro b)
    exact do_ret (w := ⟨-1, 0, []⟩) (wa := none) (wc := 0) (s := s) rfl rfl rfl hls Src.nil rfl hv (Ent.refl _)
  rw [decide_eq_false hn1, if_neg (by omega)]
  repeat (first | refine wZ ?_ | intro b)
  exact do_ret (w := ⟨3, 0, []⟩) (wa := none) (wc := 0) (s := s) rfl rfl rfl hls Src.nil rfl hv (Ent.refl _)

end
end Go.Proofs.YtfebpbflpdppiaaGreatDoor
