/- FnFilesLevels is proved: a level within a level that is ended is as if it had not been begun (the tied card, the full form). Conditions: those of the given row: the package-level variables zzEOF and ZzFault read as the program's text lays them, which the card ties. Ahead of it, in this text: what comes in. -/
import Derived.Test.YtfebpbflpdppiaaGreatDoorL23
import Derived.Test.YtfebpbflpdppiaaGreatDoorCards
import Derived.Test.YtfebpbflpdppiaaGreatDoorTie
import Derived.WalkKit
import Derived.ProofKit
import Derived.OpenShut
import Derived.Carry
import Derived.Deep.Slices
import Derived.Deep.SlicePairs
import Derived.Deep.DeepHandedRow
import Derived.Stop.LaidErr
namespace Go.Proofs.YtfebpbflpdppiaaGreatDoor
open Go Go.Sl
set_option maxRecDepth 100000
/-- calls that are few, and lie in the heap -/
def OkL (I : HP) (ls : List (Stp × Value)) : Prop := ∀ x ∈ ls, x.1.few ∧ Src [I] 1 x.2 x.1.bs.length (u8s x.1.bs)
theorem OkL.app {I : HP} {l1 l2 : List (Stp × Value)} (h1 : OkL I l1) (h2 : OkL I l2) : OkL I (l1 ++ l2) := fun x hx => (List.mem_append.1 hx).elim (h1 x) (h2 x)
theorem OkL.btw {I : HP} {l : List (Stp × Value)} (h : OkL I l) (d1 d2 : ByteArray) : OkL I (stN d1 :: (l ++ [stN d2])) := fun x hx => by
  have hn : ∀ d, (stN d).1.few ∧ Src [I] 1 (stN d).2 (stN d).1.bs.length (u8s (stN d).1.bs) := fun d => ⟨⟨⟨(by decide : (-1099511627776 : Int) ≤ 0), (by decide : (0 : Int) ≤ 65536)⟩, ⟨(by decide : (-1099511627776 : Int) ≤ 0), (by decide : (0 : Int) ≤ 65536)⟩, Nat.zero_le _⟩, .nil⟩
  rcases List.mem_cons.1 hx with rfl | hx
  · exact hn d1
  · rcases List.mem_append.1 hx with hx | hx
    · exact h x hx
    · rw [List.mem_singleton.1 hx]
      exact hn d2
theorem OkL.ent {I J : HP} {l : List (Stp × Value)} (h : OkL I l) (e : Ent [J] [I]) : OkL J l := fun x hx => ⟨(h x hx).1, (h x hx).2.ent e⟩
theorem OkL.sl {I : HP} {l : List (Stp × Value)} (h : OkL I l) : ∀ x ∈ l, ∃ a k c, x.2 = .slice a k c := fun x hx => by
  obtain ⟨a, c, e⟩ := src_slc (h x hx).2
  exact ⟨a, _, c, e⟩
attribute [local irreducible] wpList Code.wp Exit.then Exit.inBlock bodyPost RunS RunV G St Ct Sat Ent At Rd GQ QL wpAny wpOp wpQuiet slP Sl.ex sep
section
variable {glb I : HP} {ea : Addr}
set_option maxHeartbeats 32000000 in
theorem FnFilesLevels_c (hglb : Rd [glb] ⟨1, 0, none⟩ (eofV ea)) (ib : List UInt8) (ia : Option Addr) (ni nc : Nat) (hi : Src [I] 1 (.slice ia ni nc) ni (u8s ib))
    (xa : List (Stp × Value)) (aa : Option Addr) (na ac : Nat) (ha : Src [I] 4 (.slice aa na ac) na (xa.flatMap stC)) (hla : xa.length = na) (hsa : ∀ x ∈ xa, Src [I] 1 x.2 x.1.bs.length (u8s x.1.bs))
    (xb : List (Stp × Value)) (ba : Option Addr) (nb bc : Nat) (hb : Src [I] 4 (.slice ba nb bc) nb (xb.flatMap stC)) (hlb : xb.length = nb) (hsb : ∀ x ∈ xb, Src [I] 1 x.2 x.1.bs.length (u8s x.1.bs))
    (xc : List (Stp × Value)) (ca : Option Addr) (nk cc : Nat) (hc : Src [I] 4 (.slice ca nk cc) nk (xc.flatMap stC)) (hlc : xc.length = nk) (hsc : ∀ x ∈ xc, Src [I] 1 x.2 x.1.bs.length (u8s x.1.bs)) :
    Ct Tryz.prog 4 #[.slice ia ni nc, .slice aa na ac, .slice ba nb bc, .slice ca nk cc] [glb, I] (fun v B => v = .bool true ∧ B = [glb, I]) nev := by
  have hkl : ib.length = ni := by have := hi.len; simpa using this
  have hta : ∀ x ∈ xa, ∃ a c, x.2 = .slice a x.1.bs.length c := fun x hx => src_slc (hsa x hx)
  have htb : ∀ x ∈ xb, ∃ a c, x.2 = .slice a x.1.bs.length c := fun x hx => src_slc (hsb x hx)
  have htc : ∀ x ∈ xc, ∃ a c, x.2 = .slice a x.1.bs.length c := fun x hx => src_slc (hsc x hx)
  refine Ct.of Tryz.func4 rfl Tryz.ntmps4 rfl fun m F => ?_
  repeat (first | refine wZ ?_ | intro b)
  by_cases hb1 : (2147483647 : Int) < (ni : Int)
  · rw [decide_eq_true hb1]
    repeat (first | refine wZ ?_ | intro b)
    exact e_ret1 _ rfl rfl ⟨rfl, rfl⟩ (Ent.refl _)
  rw [decide_eq_false hb1]
  repeat (first | refine wZ ?_ | intro b)
  refine l_yes rfl rfl rfl (s_call rfl rfl (zz3_c xa (fun x hx => by obtain ⟨a, c, h⟩ := hta x hx; exact ⟨a, _, c, h⟩) aa na ac ha hla) [1] rfl ?_ (fun _ _ h => h.elim))
  rintro _ _ ⟨⟨q1, rfl, hq1⟩, rfl⟩
  refine G.ent (L' := glb :: I :: F) (arr_ent 0 [1, 0] _) ?_
  cases q1 with
  | false =>
    repeat (first | refine wZ ?_ | intro b)
    exact e_ret1 _ rfl rfl ⟨rfl, rfl⟩ (Ent.refl _)
  | true =>
  repeat (first | refine wZ ?_ | intro b)
  refine l_yes rfl rfl rfl (s_call rfl rfl (zz3_c xb (fun x hx => by obtain ⟨a, c, h⟩ := htb x hx; exact ⟨a, _, c, h⟩) ba nb bc hb hlb) [1] rfl ?_ (fun _ _ h => h.elim))
  rintro _ _ ⟨⟨q2, rfl, hq2⟩, rfl⟩
  refine G.ent (L' := glb :: I :: F) (arr_ent 0 [1, 0] _) ?_
  cases q2 with
  | false =>
    repeat (first | refine wZ ?_ | intro b)
    exact e_ret1 _ rfl rfl ⟨rfl, rfl⟩ (Ent.refl _)
  | true =>
  repeat (first | refine wZ ?_ | intro b)
  refine l_yes rfl rfl rfl (s_call rfl rfl (zz3_c xc (fun x hx => by obtain ⟨a, c, h⟩ := htc x hx; exact ⟨a, _, c, h⟩) ca nk cc hc hlc) [1] rfl ?_ (fun _ _ h => h.elim))
  rintro _ _ ⟨⟨q3, rfl, hq3⟩, rfl⟩
  refine G.ent (L' := glb :: I :: F) (arr_ent 0 [1, 0] _) ?_
  cases q3 with
  | false =>
    repeat (first | refine wZ ?_ | intro b)
    exact e_ret1 _ rfl rfl ⟨rfl, rfl⟩ (Ent.refl _)
  | true =>
  have hna := hq1 rfl
  have hnb := hq2 rfl
  have hnk := hq3 rfl
  clear hq1 hq2 hq3
  repeat (first | refine wZ ?_ | intro b)
  by_cases hb2 : (65536 : Int) < (ni : Int)
  · rw [decide_eq_true hb2]
    repeat (first | refine wZ ?_ | intro b)
    refine l_plain rfl (s_call rfl rfl (awake_c hglb) [0] rfl ?_ (fun _ _ h => h.elim))
    rintro _ _ ⟨rfl, rfl⟩
    repeat (first | refine wZ ?_ | intro b)
    exact e_ret1 _ rfl rfl ⟨rfl, rfl⟩ (Ent.refl _)
  rw [decide_eq_false hb2]
  repeat (first | refine wZ ?_ | intro b)
  refine l_yes rfl rfl rfl (s_call rfl rfl (few_c xa hta aa na ac ha hla hna) [1] rfl ?_ (fun _ _ h => h.elim))
  rintro _ _ ⟨⟨q4, rfl, hq4⟩, rfl⟩
  refine G.ent (L' := glb :: I :: F) (arr_ent 0 [1, 0] _) ?_
  cases q4 with
  | false =>
    repeat (first | refine wZ ?_ | intro b)
    refine l_plain rfl (s_call rfl rfl (awake_c hglb) [0] rfl ?_ (fun _ _ h => h.elim))
    rintro _ _ ⟨rfl, rfl⟩
    repeat (first | refine wZ ?_ | intro b)
    exact e_ret1 _ rfl rfl ⟨rfl, rfl⟩ (Ent.refl _)
  | true =>
  repeat (first | refine wZ ?_ | intro b)
  refine l_yes rfl rfl rfl (s_call rfl rfl (few_c xb htb ba nb bc hb hlb hnb) [1] rfl ?_ (fun _ _ h => h.elim))
  rintro _ _ ⟨⟨q5, rfl, hq5⟩, rfl⟩
  refine G.ent (L' := glb :: I :: F) (arr_ent 0 [1, 0] _) ?_
  cases q5 with
  | false =>
    repeat (first | refine wZ ?_ | intro b)
    refine l_plain rfl (s_call rfl rfl (awake_c hglb) [0] rfl ?_ (fun _ _ h => h.elim))
    rintro _ _ ⟨rfl, rfl⟩
    repeat (first | refine wZ ?_ | intro b)
    exact e_ret1 _ rfl rfl ⟨rfl, rfl⟩ (Ent.refl _)
  | true =>
  repeat (first | refine wZ ?_ | intro b)
  refine l_yes rfl rfl rfl (s_call rfl rfl (few_c xc htc ca nk cc hc hlc hnk) [1] rfl ?_ (fun _ _ h => h.elim))
  rintro _ _ ⟨⟨q6, rfl, hq6⟩, rfl⟩
  refine G.ent (L' := glb :: I :: F) (arr_ent 0 [1, 0] _) ?_
  cases q6 with
  | false =>
    repeat (first | refine wZ ?_ | intro b)
    refine l_plain rfl (s_call rfl rfl (awake_c hglb) [0] rfl ?_ (fun _ _ h => h.elim))
    rintro _ _ ⟨rfl, rfl⟩
    repeat (first | refine wZ ?_ | intro b)
    exact e_ret1 _ rfl rfl ⟨rfl, rfl⟩ (Ent.refl _)
  | true =>
  obtain ⟨hfa, h6a⟩ := hq4 rfl
  obtain ⟨hfb, h6b⟩ := hq5 rfl
  obtain ⟨hfc, h6c⟩ := hq6 rfl
  clear hq4 hq5 hq6
  repeat (first | refine wZ ?_ | intro b)
  refine l_yes rfl rfl rfl (s_call rfl rfl (within_c xa aa na ac ha hla (by omega)) [1] rfl ?_ (fun _ _ h => h.elim))
  rintro _ _ ⟨rfl, rfl⟩
  refine G.ent (L' := glb :: I :: F) (arr_ent 0 [1, 0] _) ?_
  cases hwa : wthF 0 (xa.map (·.1)) with
  | false =>
    repeat (first | refine wZ ?_ | intro b)
    refine l_plain rfl (s_call rfl rfl (awake_c hglb) [0] rfl ?_ (fun _ _ h => h.elim))
    rintro _ _ ⟨rfl, rfl⟩
    repeat (first | refine wZ ?_ | intro b)
    exact e_ret1 _ rfl rfl ⟨rfl, rfl⟩ (Ent.refl _)
  | true =>
  repeat (first | refine wZ ?_ | intro b)
  refine l_yes rfl rfl rfl (s_call rfl rfl (within_c xb ba nb bc hb hlb (by omega)) [1] rfl ?_ (fun _ _ h => h.elim))
  rintro _ _ ⟨rfl, rfl⟩
  refine G.ent (L' := glb :: I :: F) (arr_ent 0 [1, 0] _) ?_
  cases hwb : wthF 0 (xb.map (·.1)) with
  | false =>
    repeat (first | refine wZ ?_ | intro b)
    refine l_plain rfl (s_call rfl rfl (awake_c hglb) [0] rfl ?_ (fun _ _ h => h.elim))
    rintro _ _ ⟨rfl, rfl⟩
    repeat (first | refine wZ ?_ | intro b)
    exact e_ret1 _ rfl rfl ⟨rfl, rfl⟩ (Ent.refl _)
  | true =>
  repeat (first | refine wZ ?_ | intro b)
  refine l_yes rfl rfl rfl (s_call rfl rfl (within_c xc ca nk cc hc hlc (by omega)) [1] rfl ?_ (fun _ _ h => h.elim))
  rintro _ _ ⟨rfl, rfl⟩
  refine G.ent (L' := glb :: I :: F) (arr_ent 0 [1, 0] _) ?_
  cases hwc : wthF 0 (xc.map (·.1)) with
  | false =>
    repeat (first | refine wZ ?_ | intro b)
    refine l_plain rfl (s_call rfl rfl (awake_c hglb) [0] rfl ?_ (fun _ _ h => h.elim))
    rintro _ _ ⟨rfl, rfl⟩
    repeat (first | refine wZ ?_ | intro b)
    exact e_ret1 _ rfl rfl ⟨rfl, rfl⟩ (Ent.refl _)
  | true =>
  clear hwc hb1 hna hnb hnk
  have oka : OkL I xa := fun x hx => ⟨hfa x hx, hsa x hx⟩
  have okb : OkL I xb := fun x hx => ⟨hfb x hx, hsb x hx⟩
  have okc : OkL I xc := fun x hx => ⟨hfc x hx, hsc x hx⟩
  clear hfa hsa hfb hsb hfc hsc hta htb htc
  repeat (first | refine wZ ?_ | intro b)
  refine l_plain rfl ?_
  apply s_val rfl rfl
  · exact RunS.v (r_build (cells := #[.string sRb, .int .i64 0]) rfl (by kernel_rfl))
  refine l_plain rfl (s_build (size := 2) (vs := [.agg #[.string sRb, .int .i64 0]]) (l := rollL.flatMap lyC) rfl rfl rfl rfl rfl (by intro v hv; simp at hv; subst hv; rfl) (by simp [Value.cells, rollL, lyC]) rfl rfl fun yb => ?_)
  repeat (first | refine wZ ?_ | intro b)
  refine l_plain rfl (s_build (size := 4) (vs := []) (l := ([] : List (Stp × Value)).flatMap stC) rfl rfl rfl rfl rfl (by intro v hv; cases hv) rfl rfl rfl fun n1 => ?_)
  refine G.ent (slP_blk (k := 0) (size := 4) rfl (by unfold maxLen; omega)) ?_
  repeat (first | refine wZ ?_ | intro b)
  refine l_plain rfl (s_append (i := 0) (kk := na) rfl rfl rfl (Src.ent ha (Ent.pick1 (i := 3) rfl)) rfl rfl rfl (sts_one xa oka.sl) (by omega) (by simp only [maxLen]; omega) rfl ?_)
  intro a1 c1
  repeat (first | refine wZ ?_ | intro b)
  refine l_plain rfl (s_call rfl rfl (between_c sBegin sEnd xb okb.sl ba nb bc hb hlb (by omega)) [3] rfl ?_ (fun _ _ h => h.elim))
  rintro _ _ ⟨a2, c2, rfl, rfl⟩
  refine G.ent (L' := slP (.slice a2 (nb + 2) c2) 43 4 ((stN sBegin :: (xb ++ [stN sEnd])).flatMap stC) :: slP (.slice a1 (0 + na) c1) 43 4 (([] : List (Stp × Value)).flatMap stC ++ xa.flatMap stC) :: blk yb (cl (rollL.flatMap lyC) 29) :: glb :: I :: F) (arr_ent 0 [1, 1, 1, 1, 0] _) ?_
  refine src_sl1 fun hs1 _ => ?_
  refine l_plain rfl (s_append (i := 1) (kk := nb + 2) rfl rfl rfl (Src.ent hs1 (Ent.pick1 (i := 0) rfl)) rfl rfl (by rw [List.length_append, st_flen, st_flen, hla]; simp) (sts_one _ (okb.btw sBegin sEnd).sl) (by omega) (by simp only [maxLen]; omega) rfl ?_)
  intro a3 c3
  clear hs1
  repeat (first | refine wZ ?_ | intro b)
  refine l_plain rfl (s_append (i := 0) (kk := nk) rfl rfl rfl (Src.ent hc (Ent.pick1 (i := 4) rfl)) rfl rfl (by rw [List.length_append, List.length_append, st_flen, st_flen, st_flen, hla]; simp [hlb]; omega) (sts_one xc okc.sl) (by omega) (by simp only [maxLen]; omega) rfl ?_)
  intro a4 c4
  repeat (first | refine wZ ?_ | intro b)
  have e1 : ([] : List (Stp × Value)).flatMap stC ++ xa.flatMap stC ++ (stN sBegin :: (xb ++ [stN sEnd])).flatMap stC ++ xc.flatMap stC = (xa ++ (stN sBegin :: (xb ++ [stN sEnd])) ++ xc).flatMap stC := by simp
  rw [e1]
  generalize hN : xa ++ (stN sBegin :: (xb ++ [stN sEnd])) ++ xc = xN
  have okN : OkL I xN := by rw [← hN]; exact (oka.app (okb.btw _ _)).app okc
  have hlN : xN.length = 0 + na + (nb + 2) + nk := by rw [← hN]; simp; omega
  generalize hnN : 0 + na + (nb + 2) + nk = nN at hlN
  refine G.ent (L' := slP (.slice a4 nN c4) 43 4 (xN.flatMap stC) :: blk yb (cl (rollL.flatMap lyC) 29) :: glb :: I :: F) (Ent.trans (arr_ent 1 [0] _) (Ent.refl _)) ?_
  refine l_plain rfl (s_build (size := 4) (vs := []) (l := ([] : List (Stp × Value)).flatMap stC) rfl rfl rfl rfl rfl (by intro v hv; cases hv) rfl rfl rfl fun n2 => ?_)
  refine G.ent (slP_blk (k := 0) (size := 4) rfl (by unfold maxLen; omega)) ?_
  repeat (first | refine wZ ?_ | intro b)
  refine l_plain rfl (s_append (i := 0) (kk := na) rfl rfl rfl (Src.ent ha (Ent.pick1 (i := 4) rfl)) rfl rfl rfl (sts_one xa oka.sl) (by omega) (by simp only [maxLen]; omega) rfl ?_)
  intro a5 c5
  repeat (first | refine wZ ?_ | intro b)
  refine l_plain rfl (s_append (i := 0) (kk := nb) rfl rfl rfl (Src.ent hb (Ent.pick1 (i := 4) rfl)) rfl rfl (by rw [List.length_append, st_flen, st_flen, hla]; simp) (sts_one xb okb.sl) (by omega) (by simp only [maxLen]; omega) rfl ?_)
  intro a6 c6
  repeat (first | refine wZ ?_ | intro b)
  refine l_plain rfl (s_append (i := 0) (kk := nk) rfl rfl rfl (Src.ent hc (Ent.pick1 (i := 4) rfl)) rfl rfl (by rw [List.length_append, List.length_append, st_flen, st_flen, st_flen, hla, hlb]; simp; omega) (sts_one xc okc.sl) (by omega) (by simp only [maxLen]; omega) rfl ?_)
  intro a7 c7
  repeat (first | refine wZ ?_ | intro b)
  have e2 : ([] : List (Stp × Value)).flatMap stC ++ xa.flatMap stC ++ xb.flatMap stC ++ xc.flatMap stC = (xa ++ xb ++ xc).flatMap stC := by simp
  rw [e2]
  generalize hM : xa ++ xb ++ xc = xM
  have okM : OkL I xM := by rw [← hM]; exact (oka.app okb).app okc
  have hlM : xM.length = 0 + na + nb + nk := by rw [← hM]; simp; omega
  generalize hnM : 0 + na + nb + nk = nM at hlM
  clear e1 e2
  refine G.ent (L' := slP (.slice a4 nN c4) 43 4 (xN.flatMap stC) :: slP (.slice a7 nM c7) 43 4 (xM.flatMap stC) :: blk yb (cl (rollL.flatMap lyC) 29) :: glb :: I :: F) (arr_ent 0 [1] _) ?_
  refine src_sl1 fun hsN _ => ?_
  refine l_plain rfl (s_call rfl rfl (between_c sBegin sEnd xN okN.sl a4 nN c4 hsN hlN (by omega)) [0] rfl ?_ (fun _ _ h => h.elim))
  rintro _ _ ⟨a8, c8, rfl, rfl⟩
  repeat (first | refine wZ ?_ | intro b)
  refine G.ent (L' := slP (.slice a7 nM c7) 43 4 (xM.flatMap stC) :: slP (.slice a8 (nN + 2) c8) 43 4 ((stN sBegin :: (xN ++ [stN sEnd])).flatMap stC) :: blk yb (cl (rollL.flatMap lyC) 29) :: glb :: I :: F) (arr_ent 1 [2, 1, 1, 1, 1] _) ?_
  refine src_sl1 fun hsM _ => ?_
  refine l_plain rfl (s_call rfl rfl (between_c sBegin sEnd xM okM.sl a7 nM c7 hsM hlM (by omega)) [0] rfl ?_ (fun _ _ h => h.elim))
  rintro _ _ ⟨a9, c9, rfl, rfl⟩
  repeat (first | refine wZ ?_ | intro b)
  clear hsN hsM
  have okO := okN.btw sBegin sEnd
  have okT := okM.btw sBegin sEnd
  have hO : (stN sBegin :: (xN ++ [stN sEnd])).map (·.1) = nstL (xa.map (·.1)) (xb.map (·.1)) (xc.map (·.1)) := by
    rw [← hN]
    simp [nstL, stN, stB, stE]
  have hT : (stN sBegin :: (xM ++ [stN sEnd])).map (·.1) = fltL (xa.map (·.1)) (xb.map (·.1)) (xc.map (·.1)) := by
    rw [← hM]
    simp [fltL, stN, stB, stE]
  have hlO : (stN sBegin :: (xN ++ [stN sEnd])).length = nN + 2 := by simp [hlN]
  have hlT : (stN sBegin :: (xM ++ [stN sEnd])).length = nM + 2 := by simp [hlM]
  clear okN okM
  generalize stN sBegin :: (xN ++ [stN sEnd]) = xO at okO hO hlO
  generalize stN sBegin :: (xM ++ [stN sEnd]) = xT at okT hT hlT
  generalize hnO : nN + 2 = nO at hlO
  generalize hnT : nM + 2 = nT at hlT
  refine G.ent (L' := slP (.slice a8 nO c8) 43 4 (xO.flatMap stC) :: slP (.slice a9 nT c9) 43 4 (xT.flatMap stC) :: blk yb (cl (rollL.flatMap lyC) 29) :: glb :: I :: F) (arr_ent 1 [2, 1, 1, 1, 1] _) ?_
  refine src_sl1 fun hsO _ => ?_
  refine G.ent (L' := slP (.slice a9 nT c9) 43 4 (xT.flatMap stC) :: slP (.slice a8 nO c8) 43 4 (xO.flatMap stC) :: blk yb (cl (rollL.flatMap lyC) 29) :: glb :: I :: F) (arr_ent 0 [1] _) ?_
  refine src_sl1 fun hsT _ => ?_
  refine G.ent (L' := glb :: sep [I, slP (.slice a8 nO c8) 43 4 (xO.flatMap stC), slP (.slice a9 nT c9) 43 4 (xT.flatMap stC), blk yb (cl (rollL.flatMap lyC) 29)] :: F) (Ent.trans (arr_ent 0 [3, 3, 1, 0, 0] _) (Ent.cons (sep_shut [_, _, _, _] F))) ?_
  have hopF : ∀ F, Ent (sep [I, slP (.slice a8 nO c8) 43 4 (xO.flatMap stC), slP (.slice a9 nT c9) 43 4 (xT.flatMap stC), blk yb (cl (rollL.flatMap lyC) 29)] :: F) (I :: slP (.slice a8 nO c8) 43 4 (xO.flatMap stC) :: slP (.slice a9 nT c9) 43 4 (xT.flatMap stC) :: blk yb (cl (rollL.flatMap lyC) 29) :: F) := fun F => sep_open [_, _, _, _] F
  generalize sep [I, slP (.slice a8 nO c8) 43 4 (xO.flatMap stC), slP (.slice a9 nT c9) 43 4 (xT.flatMap stC), blk yb (cl (rollL.flatMap lyC) 29)] = I1 at hopF
  have hI : Ent [I1] [I] := (hopF []).trans (Ent.pick1 (i := 0) rfl)
  have hiI1 : Src [I1] 1 (.slice ia ni nc) ni (u8s ib) := hi.ent hI
  have hyI1 : Src [I1] 2 (.slice (some ⟨yb, 0, none⟩) 1 1) 1 (rollL.flatMap lyC) := .some _ _ _ _ _ rfl (RdN.ent (rdn_all (L := [blk yb (cl (rollL.flatMap lyC) 29)]) 0 rfl) ((hopF []).trans (Ent.pick1 (i := 3) rfl)))
  have hOI : Src [I1] 4 (.slice a8 nO c8) nO (xO.flatMap stC) := hsO.ent ((hopF []).trans (Ent.pick1 (i := 1) rfl))
  have hTI : Src [I1] 4 (.slice a9 nT c9) nT (xT.flatMap stC) := hsT.ent ((hopF []).trans (Ent.pick1 (i := 2) rfl))
  have okO := okO.ent hI
  have okT := okT.ent hI
  have hro : ∀ y ∈ rollL, 0 ≤ y.2 ∧ y.2 ≤ 65536 := fun y hy => by rw [List.mem_singleton.1 hy]; decide
  have hrl : rollL.length = 1 := rfl
  clear hi ha hb hc hsO hsT oka okb okc
  refine l_plain rfl (s_call rfl rfl (FilesSaid_c okS ib ia ni nc hiI1 (by omega) rollL _ 1 1 hyI1 rfl (by omega) hro (fun _ => okS0 ib rollL (by omega) (by omega) hro) xO a8 nO c8 hOI hlO (by omega) okO) [1] rfl ?_ (fun _ _ h => h.elim))
  rintro _ _ ⟨rfl, rfl⟩
  refine G.ent (L' := glb :: I1 :: F) (arr_ent 0 [1, 0] _) ?_
  have hfin : Ent (glb :: I1 :: F) (glb :: I :: F) := Ent.cons ((hopF F).trans (arr_ent 3 [0] _))
  cases hso : saidF ib rollL (xO.map (·.1)) with
  | false =>
    repeat (first | refine wZ ?_ | intro b)
    refine l_plain rfl (s_call rfl rfl (awake_c hglb) [0] rfl ?_ (fun _ _ h => h.elim))
    rintro _ _ ⟨rfl, rfl⟩
    repeat (first | refine wZ ?_ | intro b)
    exact e_ret1 _ rfl rfl ⟨rfl, rfl⟩ hfin
  | true =>
  repeat (first | refine wZ ?_ | intro b)
  refine l_yes rfl rfl rfl (s_call rfl rfl (FilesSaid_c okS ib ia ni nc hiI1 (by omega) rollL _ 1 1 hyI1 rfl (by omega) hro (fun _ => okS0 ib rollL (by omega) (by omega) hro) xT a9 nT c9 hTI hlT (by omega) okT) [1] rfl ?_ (fun _ _ h => h.elim))
  rintro _ _ ⟨rfl, rfl⟩
  refine G.ent (L' := glb :: I1 :: F) (arr_ent 0 [1, 0] _) ?_
  cases hst : saidF ib rollL (xT.map (·.1)) with
  | false =>
    repeat (first | refine wZ ?_ | intro b)
    refine l_plain rfl (s_call rfl rfl (awake_c hglb) [0] rfl ?_ (fun _ _ h => h.elim))
    rintro _ _ ⟨rfl, rfl⟩
    repeat (first | refine wZ ?_ | intro b)
    exact e_ret1 _ rfl rfl ⟨rfl, rfl⟩ hfin
  | true =>
  rw [hO] at hso
  clear hst
  repeat (first | refine wZ ?_ | intro b)
  refine l_plain rfl (s_call rfl rfl (copied_c ib ia ni nc hiI1 (by omega)) [1] rfl ?_ (fun _ _ h => h.elim))
  rintro _ _ ⟨d1a, d1c, rfl, rfl⟩
  repeat (first | refine wZ ?_ | intro b)
  refine l_plain rfl (s_call rfl rfl (copies_c xO (fun x hx => ⟨(okO x hx).1.2.2, (okO x hx).2⟩) a8 nO c8 hOI hlO (by omega)) [0] rfl ?_ (fun _ _ h => h.elim))
  rintro _ _ ⟨f1a, f1c, y1, W1, rfl, hm1, hW1, rfl⟩
  refine G.ent (L' := slP (.slice d1a ni d1c) 5 1 (u8s ib) :: slP (.slice f1a nO f1c) 43 4 (y1.flatMap stC) :: W1 :: glb :: I1 :: F) (arr_ent 0 [3, 1, 1, 1] _) ?_
  refine src_sl1 fun hu1 hv1 => ?_
  refine G.ent (L' := slP (.slice f1a nO f1c) 43 4 (y1.flatMap stC) :: slP (.slice d1a ni d1c) 5 1 (u8s ib) :: W1 :: glb :: I1 :: F) (arr_ent 0 [1] _) ?_
  refine src_sl1 fun hw1 _ => ?_
  have hly1 : y1.length = nO := by have := congrArg List.length hm1; simpa [hlO] using this
  have hfy1 : ∀ x ∈ y1, x.1.few := fun x hx => by
    have h1 : x.1 ∈ y1.map (·.1) := List.mem_map.2 ⟨x, hx, rfl⟩
    rw [hm1] at h1
    obtain ⟨y, hy1, hy2⟩ := List.mem_map.1 h1
    rw [← hy2]
    exact (okO y hy1).1
  refine G.ent (L' := glb :: sep [I1, slP (.slice d1a ni d1c) 5 1 (u8s ib), slP (.slice f1a nO f1c) 43 4 (y1.flatMap stC), W1] :: F) (Ent.trans (arr_ent 0 [3, 3, 1, 0, 0] _) (Ent.cons (sep_shut [_, _, _, _] _))) ?_
  have hgF1 : ∀ F, Ent (sep [I1, slP (.slice d1a ni d1c) 5 1 (u8s ib), slP (.slice f1a nO f1c) 43 4 (y1.flatMap stC), W1] :: F) (I1 :: slP (.slice d1a ni d1c) 5 1 (u8s ib) :: slP (.slice f1a nO f1c) 43 4 (y1.flatMap stC) :: W1 :: F) := fun F => sep_open [_, _, _, _] F
  generalize sep [I1, slP (.slice d1a ni d1c) 5 1 (u8s ib), slP (.slice f1a nO f1c) 43 4 (y1.flatMap stC), W1] = I2 at hgF1
  have hJ1 : Ent [I2] [I1] := (hgF1 []).trans (Ent.pick1 (i := 0) rfl)
  refine l_plain rfl (s_call rfl rfl (Files_c hglb ib d1a ni d1c (hu1.ent ((hgF1 []).trans (Ent.pick1 (i := 1) rfl))) hv1 (by omega) rollL _ 1 1 (hyI1.ent hJ1) rfl (by omega) hro y1 f1a nO f1c (hw1.ent ((hgF1 []).trans (Ent.pick1 (i := 2) rfl))) hly1 (by omega) (fun x hx => ⟨hfy1 x hx, (hW1 x hx).ent ((hgF1 []).trans (Ent.pick1 (i := 3) rfl))⟩)) [0, 0] rfl ?_ (fun _ _ h => h.elim))
  rintro _ _ ⟨t1a, t1c, ov1, p1a, p1c, T1, σ1, hF1, rfl, rfl⟩
  rw [hm1] at hF1
  have hF1 : FRes (cfOf (rollL.map kindO)) ⟨ov (fun _ => 0) 0 ib, ib.length, [], .idle⟩ (xO.map (·.1)) (T1.map (·.1)) σ1 := by rw [hkl]; exact hF1
  refine G.ent (L' := tdH ov1 (rng σ1.c 0 σ1.s) :: slP (.slice p1a σ1.l.length p1c) 2 1 (ints σ1.l) :: glb :: I2 :: F) (arr_ent 2 [4, 4, 0, 0] _) ?_
  refine td_src fun o1a o1c hov1 _ hos1 => ?_
  subst hov1
  refine G.ent (L' := slP (.slice p1a σ1.l.length p1c) 2 1 (ints σ1.l) :: tdH (.slice o1a (rng σ1.c 0 σ1.s).length o1c) (rng σ1.c 0 σ1.s) :: glb :: I2 :: F) (arr_ent 0 [1] _) ?_
  refine src_sl1 fun hps1 _ => ?_
  have hiI2 := hiI1.ent hJ1
  have hyI2 := hyI1.ent hJ1
  have hTI2 := hTI.ent hJ1
  have okT2 := okT.ent hJ1
  repeat (first | refine wZ ?_ | intro b)
  refine G.ent (L' := glb :: I2 :: tdH (.slice o1a (rng σ1.c 0 σ1.s).length o1c) (rng σ1.c 0 σ1.s) :: slP (.slice p1a σ1.l.length p1c) 2 1 (ints σ1.l) :: F) (arr_ent 0 [2, 2, 1, 0] _) ?_
  refine l_plain rfl (s_call rfl rfl (copied_c ib ia ni nc hiI2 (by omega)) [1] rfl ?_ (fun _ _ h => h.elim))
  rintro _ _ ⟨d2a, d2c, rfl, rfl⟩
  repeat (first | refine wZ ?_ | intro b)
  refine l_plain rfl (s_call rfl rfl (copies_c xT (fun x hx => ⟨(okT2 x hx).1.2.2, (okT2 x hx).2⟩) a9 nT c9 hTI2 hlT (by omega)) [0] rfl ?_ (fun _ _ h => h.elim))
  rintro _ _ ⟨f2a, f2c, y2, W2, rfl, hm2, hW2, rfl⟩
  refine G.ent (L' := slP (.slice d2a ni d2c) 5 1 (u8s ib) :: slP (.slice f2a nT f2c) 43 4 (y2.flatMap stC) :: W2 :: glb :: I2 :: tdH (.slice o1a (rng σ1.c 0 σ1.s).length o1c) (rng σ1.c 0 σ1.s) :: slP (.slice p1a σ1.l.length p1c) 2 1 (ints σ1.l) :: F) (arr_ent 0 [3, 1, 1, 1] _) ?_
  refine src_sl1 fun hu2 hv2 => ?_
  refine G.ent (L' := slP (.slice f2a nT f2c) 43 4 (y2.flatMap stC) :: slP (.slice d2a ni d2c) 5 1 (u8s ib) :: W2 :: glb :: I2 :: tdH (.slice o1a (rng σ1.c 0 σ1.s).length o1c) (rng σ1.c 0 σ1.s) :: slP (.slice p1a σ1.l.length p1c) 2 1 (ints σ1.l) :: F) (arr_ent 0 [1] _) ?_
  refine src_sl1 fun hw2 _ => ?_
  have hly2 : y2.length = nT := by have := congrArg List.length hm2; simpa [hlT] using this
  have hfy2 : ∀ x ∈ y2, x.1.few := fun x hx => by
    have h1 : x.1 ∈ y2.map (·.1) := List.mem_map.2 ⟨x, hx, rfl⟩
    rw [hm2] at h1
    obtain ⟨y, hy1, hy2⟩ := List.mem_map.1 h1
    rw [← hy2]
    exact (okT2 y hy1).1
  refine G.ent (L' := glb :: sep [I2, slP (.slice d2a ni d2c) 5 1 (u8s ib), slP (.slice f2a nT f2c) 43 4 (y2.flatMap stC), W2] :: tdH (.slice o1a (rng σ1.c 0 σ1.s).length o1c) (rng σ1.c 0 σ1.s) :: slP (.slice p1a σ1.l.length p1c) 2 1 (ints σ1.l) :: F) (Ent.trans (arr_ent 0 [3, 3, 1, 0, 0] _) (Ent.cons (sep_shut [_, _, _, _] _))) ?_
  have hgF2 : ∀ F, Ent (sep [I2, slP (.slice d2a ni d2c) 5 1 (u8s ib), slP (.slice f2a nT f2c) 43 4 (y2.flatMap stC), W2] :: F) (I2 :: slP (.slice d2a ni d2c) 5 1 (u8s ib) :: slP (.slice f2a nT f2c) 43 4 (y2.flatMap stC) :: W2 :: F) := fun F => sep_open [_, _, _, _] F
  generalize sep [I2, slP (.slice d2a ni d2c) 5 1 (u8s ib), slP (.slice f2a nT f2c) 43 4 (y2.flatMap stC), W2] = I3 at hgF2
  have hJ2 : Ent [I3] [I2] := (hgF2 []).trans (Ent.pick1 (i := 0) rfl)
  refine l_plain rfl (s_call rfl rfl (Files_c hglb ib d2a ni d2c (hu2.ent ((hgF2 []).trans (Ent.pick1 (i := 1) rfl))) hv2 (by omega) rollL _ 1 1 (hyI2.ent hJ2) rfl (by omega) hro y2 f2a nT f2c (hw2.ent ((hgF2 []).trans (Ent.pick1 (i := 2) rfl))) hly2 (by omega) (fun x hx => ⟨hfy2 x hx, (hW2 x hx).ent ((hgF2 []).trans (Ent.pick1 (i := 3) rfl))⟩)) [0, 0] rfl ?_ (fun _ _ h => h.elim))
  rintro _ _ ⟨t2a, t2c, ov2, p2a, p2c, T2, σ2, hF2, rfl, rfl⟩
  rw [hm2] at hF2
  have hF2 : FRes (cfOf (rollL.map kindO)) ⟨ov (fun _ => 0) 0 ib, ib.length, [], .idle⟩ (xT.map (·.1)) (T2.map (·.1)) σ2 := by rw [hkl]; exact hF2
  refine G.ent (L' := tdH ov2 (rng σ2.c 0 σ2.s) :: slP (.slice p2a σ2.l.length p2c) 2 1 (ints σ2.l) :: glb :: I3 :: tdH (.slice o1a (rng σ1.c 0 σ1.s).length o1c) (rng σ1.c 0 σ1.s) :: slP (.slice p1a σ1.l.length p1c) 2 1 (ints σ1.l) :: F) (arr_ent 2 [4, 4, 0, 0] _) ?_
  refine td_src fun o2a o2c hov2 _ hos2 => ?_
  subst hov2
  refine G.ent (L' := slP (.slice p2a σ2.l.length p2c) 2 1 (ints σ2.l) :: tdH (.slice o2a (rng σ2.c 0 σ2.s).length o2c) (rng σ2.c 0 σ2.s) :: glb :: I3 :: tdH (.slice o1a (rng σ1.c 0 σ1.s).length o1c) (rng σ1.c 0 σ1.s) :: slP (.slice p1a σ1.l.length p1c) 2 1 (ints σ1.l) :: F) (arr_ent 0 [1] _) ?_
  refine src_sl1 fun hps2 _ => ?_
  have hfO : ∀ x ∈ nstL (xa.map (·.1)) (xb.map (·.1)) (xc.map (·.1)), x.few := fun x hx => by
    rw [← hO] at hx
    obtain ⟨y, hy1, rfl⟩ := List.mem_map.1 hx
    exact (okO y hy1).1
  have hfT : ∀ x ∈ fltL (xa.map (·.1)) (xb.map (·.1)) (xc.map (·.1)), x.few := fun x hx => by
    rw [← hT] at hx
    obtain ⟨y, hy1, rfl⟩ := List.mem_map.1 hx
    exact (okT y hy1).1
  have hpl := (fres_len hF1 (by omega) (by omega) hro (by rw [hO]; exact hfO)).1
  rw [List.length_map, hlO] at hpl
  rw [hO] at hF1
  rw [hT] at hF2
  obtain ⟨hsr, hsl⟩ := levels_same hwa hwb hfO hfT hso hF1 hF2
  rw [← hsr] at hos2 ⊢
  rw [← hsl] at hps2 ⊢
  clear hF1 hF2 hsr hsl hfO hfT
  generalize rng σ1.c 0 σ1.s = out at hos1 hos2
  generalize σ1.l = pts at hps1 hps2 hpl
  have hfin2 : ∀ F, Ent (I3 :: F) (I :: F) := fun F => ((hgF2 F).trans (arr_ent 3 [0] _)).trans (((hgF1 F).trans (arr_ent 3 [0] _)).trans ((hopF F).trans (arr_ent 3 [0] _)))
  refine G.ent (L' := sep [tdH (.slice o1a out.length o1c) out, tdH (.slice o2a out.length o2c) out] :: slP (.slice p1a pts.length p1c) 2 1 (ints pts) :: slP (.slice p2a pts.length p2c) 2 1 (ints pts) :: glb :: I3 :: F) (Ent.trans (arr_ent 0 [4, 1, 3] _) (sep_shut [_, _] _)) ?_
  repeat (first | refine wZ ?_ | intro b)
  refine l_plain rfl (s_call rfl rfl (same_c out o1a o2a out.length o1c out.length o2c (hos1.ent sep2_l) (hos2.ent sep2_r)) [0] rfl ?_ (fun _ _ h => h.elim))
  rintro _ _ ⟨rfl, rfl⟩
  refine G.ent (L' := slP (.slice p1a pts.length p1c) 2 1 (ints pts) :: slP (.slice p2a pts.length p2c) 2 1 (ints pts) :: glb :: I3 :: F) Ent.drop ?_
  repeat (first | refine wZ ?_ | intro b)
  rw [decide_eq_true (rfl : (pts.length : Int) = pts.length)]
  repeat (first | refine wZ ?_ | intro b)
  refine c_loop (α := Nat) (fun y => [(20, .int .i64 (y : Nat)), (19, .slice p2a pts.length p2c), (16, .slice p1a pts.length p1c)]) (fun _ => slP (.slice p1a pts.length p1c) 2 1 (ints pts) :: slP (.slice p2a pts.length p2c) 2 1 (ints pts) :: glb :: I3 :: F) (fun y => y ≤ pts.length) (fun y => pts.length - y) 0 (Nat.zero_le _) (by exact ⟨rfl, rfl, rfl, trivial⟩) (Ent.refl _) ?_
  clear hW1 hW2 hfy1 hfy2 okO okT okT2 hOI hTI hTI2 hiI1 hiI2 hyI1 hyI2
  rintro i hil
  by_cases hlt : i < pts.length
  · obtain ⟨b1, o1, rfl, hr1⟩ := src_addr hps1 (by omega)
    obtain ⟨b2, o2, rfl, hr2⟩ := src_addr hps2 (by omega)
    have hg1 : ∀ v, (ints pts)[i]? = some v → Rd (slP (.slice (some ⟨b1, o1, none⟩) pts.length p1c) 2 1 (ints pts) :: slP (.slice (some ⟨b2, o2, none⟩) pts.length p2c) 2 1 (ints pts) :: glb :: I3 :: F) ⟨b1, o1 + i * 1, none⟩ v := fun v hv => by
      rw [Nat.mul_one]
      exact (RdN.ent hr1 (Ent.left [_] _)).get hv
    have hg2 : ∀ v, (ints pts)[i]? = some v → Rd (slP (.slice (some ⟨b1, o1, none⟩) pts.length p1c) 2 1 (ints pts) :: slP (.slice (some ⟨b2, o2, none⟩) pts.length p2c) 2 1 (ints pts) :: glb :: I3 :: F) ⟨b2, o2 + i * 1, none⟩ v := fun v hv => by
      rw [Nat.mul_one]
      exact (RdN.ent hr2 (Ent.drop.trans (Ent.left [_] _))).get hv
    have hv : (ints pts)[i]? = some (.int .i64 pts[i]) := by rw [ints_get, List.getElem?_eq_getElem hlt]; rfl
    have hg1 := hg1 _ hv
    have hg2 := hg2 _ hv
    repeat (first | refine wZ ?_ | intro b)
    rw [decide_eq_true (by omega : (i : Int) < (pts.length : Int))]
    repeat (first | refine wZ ?_ | intro b)
    apply qt_val rfl rfl rfl
    · exact RunS.v (r_index (i := i) rfl rfl rfl hlt)
    repeat (first | refine wZ ?_ | intro b)
    apply qt_val (v := .int .i64 pts[i]) rfl rfl rfl
    · exact r_load rfl rfl hg1
    repeat (first | refine wZ ?_ | intro b)
    apply qt_val rfl rfl rfl
    · exact RunS.v (r_index (i := i) rfl rfl rfl hlt)
    repeat (first | refine wZ ?_ | intro b)
    apply qt_val (v := .int .i64 pts[i]) rfl rfl rfl
    · exact r_load rfl rfl hg2
    repeat (first | refine wZ ?_ | intro b)
    rw [decide_eq_true (rfl : pts[i] = pts[i])]
    repeat (first | refine wZ ?_ | intro b)
    exact at_intro (i + 1) ⟨hlt, by omega⟩ ⟨rfl, rfl, rfl, trivial⟩ (Ent.refl _)
  · obtain rfl : i = pts.length := by omega
    repeat (first | refine wZ ?_ | intro b)
    rw [decide_eq_false (by omega : ¬ ((pts.length : Nat) : Int) < (pts.length : Int))]
    repeat (first | refine wZ ?_ | intro b)
    refine l_plain rfl (s_call rfl rfl (awake_c hglb) [2] rfl ?_ (fun _ _ h => h.elim))
    rintro _ _ ⟨rfl, rfl⟩
    repeat (first | refine wZ ?_ | intro b)
    exact e_ret1 _ rfl rfl ⟨rfl, rfl⟩ (Ent.cons ((arr_ent 2 [2] _).trans (hfin2 F)))
end
end Go.Proofs.YtfebpbflpdppiaaGreatDoor
namespace Go.Proofs.YtfebpbflpdppiaaGreatDoor
open Go Go.Sl Go.ChangeShapes Go.WideShapes Go.ChangeAt Go.RowKit Go.Deep
set_option maxRecDepth 100000
/-- the block of zzEOF, and the heap without it -/
def gH (W : World) : HP := fun h => h = fun k => if k = 1 then ph W k else none
def rH (W : World) : HP := fun h => h = fun k => if k = 1 then none else ph W k
theorem two_sat (W : World) : Sat ⟨W.os, W.tape, W.output⟩ ([gH W, rH W] ++ []) W :=
  ⟨rfl, rfl, rfl, _, _, (fun k o e => by split at e <;> first | exact e | cases e), (fun k o e => by split at e <;> first | exact e | cases e), (fun k => by by_cases h : k = 1 <;> simp [h]), rfl,
    _, (fun _ => none), PH.sub.refl _, (fun _ _ e => by cases e), (fun _ => Or.inr rfl), rfl, trivial⟩
theorem cell_heap {W w : World} {a : Addr} {v : Value} (hc : W.cell? a = some v) (hh : ∀ o, W.heap[a.block]? = some o → w.heap[a.block]? = some o) : w.cell? a = some v := by
  cases hb : W.heap[a.block]? with
  | none => simp [World.cell?, hb] at hc
  | some o => simpa [World.cell?, hb, hh o hb] using hc
theorem rH_rd {W : World} {L : List HP} {a : Addr} {v : Value} (hc : W.cell? a = some v) (hb : a.block ≠ 1) : Rd (rH W :: L) a v := fun m w h => by
  obtain ⟨g, h1, hg⟩ := h.2.2.2.head
  have hg : g = fun k => if k = 1 then none else ph W k := hg
  subst hg
  exact cell_heap hc fun o ho => h1 a.block o (by dsimp only; rw [if_neg hb]; exact ho)
theorem gH_rd {W : World} {v : Value} (hc : W.cell? ⟨1, 0, none⟩ = some v) : Rd [gH W] ⟨1, 0, none⟩ v := fun m w h => by
  obtain ⟨g, h1, hg⟩ := h.2.2.2.head
  have hg : g = fun k => if k = 1 then ph W k else none := hg
  subst hg
  exact cell_heap hc fun o ho => h1 1 o (by dsimp only; rw [if_pos rfl]; exact ho)
theorem two_below {W w : World} (h : Sat ⟨W.os, W.tape, W.output⟩ ([gH W, rH W] ++ []) w) : Below W.heap.size W w := by
  obtain ⟨h1, h2, h3, g, r, hs, hr, _, hg, r', _, hs', _, _, hr', _⟩ := h
  have hg : g = fun k => if k = 1 then ph W k else none := hg
  have hr' : r' = fun k => if k = 1 then none else ph W k := hr'
  subst hg hr'
  have hb : ∀ k, k < W.heap.size → w.heap[k]? = W.heap[k]? := fun k hk => by
    have e : W.heap[k]? = some W.heap[k] := Array.getElem?_eq_getElem hk
    rw [e]
    by_cases h1 : k = 1
    · exact hs k _ (by dsimp only; rw [if_pos h1]; exact e)
    · exact hr k _ (hs' k _ (by dsimp only; rw [if_neg h1]; exact e))
  refine ⟨h1, h2, h3, ?_, hb⟩
  rcases Nat.eq_zero_or_pos W.heap.size with h0 | h0
  · omega
  · have e : W.heap[W.heap.size - 1]? = some (W.heap[W.heap.size - 1]'(by omega)) := Array.getElem?_eq_getElem (by omega)
    have := hb (W.heap.size - 1) (by omega)
    rw [e] at this
    have := (Array.getElem?_eq_some_iff.1 this).1
    omega
/-- what block 1 is -/
def EofB (W : World) : Prop := ∃ (a : Addr) (t : TypeId) (fz : Nat × Nat), W.heap[1]? = some (.cells #[eofV a] t fz)
theorem cell_ok {W : World} (he : EofB W) {a : Addr} {v : Value} (hc : W.cell? a = some v) (hv : ∀ u p, v ≠ .iface u p) : ∃ b o, a = ⟨b, o, none⟩ ∧ b ≠ 1 := by
  obtain ⟨b, o, sp⟩ := a
  have hsp : sp = none := by
    cases sp with
    | none => rfl
    | some x =>
      simp only [World.cell?] at hc
      split at hc
      · simp at hc
      · cases hc
  subst hsp
  refine ⟨b, o, rfl, fun hb => ?_⟩
  subst hb
  obtain ⟨a, t, fz, hh⟩ := he
  simp only [World.cell?, hh] at hc
  cases o with
  | zero =>
    have : eofV a = v := by simpa using hc
    exact hv _ _ (this.symm.trans rfl)
  | succ o => simp at hc
section
variable {L : List HP} {b : Nat}
theorem RdN.app {o : Nat} {l1 l2 : List Value} (h1 : RdN L b o l1) (h2 : RdN L b (o + l1.length) l2) : RdN L b o (l1 ++ l2) := RdN.of fun j v hv => by
  by_cases hj : j < l1.length
  · rw [List.getElem?_append_left hj] at hv
    exact h1.get hv
  · rw [List.getElem?_append_right (by omega)] at hv
    have := h2.get hv
    rwa [show o + l1.length + (j - l1.length) = o + j from by omega] at this
theorem rdn_flat {α : Type} {f : α → List Value} {n : Nat} (hn : ∀ x, (f x).length = n) : ∀ (l : List α) (o : Nat), (∀ i x, l[i]? = some x → RdN L b (o + i * n) (f x)) → RdN L b o (l.flatMap f)
  | [], o, h => RdN.of fun j v hv => by simp at hv
  | y :: l, o, h => by
    rw [List.flatMap_cons]
    refine RdN.app (by have := h 0 y rfl; rwa [Nat.zero_mul, Nat.add_zero] at this) ?_
    rw [hn]
    exact rdn_flat hn l (o + n) fun i x hx => by
      have := h (i + 1) x (by simpa using hx)
      rwa [Nat.succ_mul, show o + (i * n + n) = o + n + i * n from by omega] at this
end
theorem cells5 : Tryz.prog.cellsOf 5 = 1 := by kernel_rfl
theorem cells9 : Tryz.prog.cellsOf 9 = 1 := by kernel_rfl
theorem cells2 : Tryz.prog.cellsOf 2 = 1 := by kernel_rfl
theorem cells22 : Tryz.prog.cellsOf 22 = 1 := by kernel_rfl
theorem cells43 : Tryz.prog.cellsOf 43 = 4 := by kernel_rfl
section
variable {H : Type} {enc : TypeId × Value → H} {W : World} {fuel : Nat} {cs : List Value} {x : DataW H × List MemPlace}
/-- bytes -/
theorem open_b (he : EofB W) (h : DataW.trod enc Tryz.prog W 0 (fun _ => true) true fuel 22 cs = some x) : ∃ (a : Option Addr) (k c : Nat) (bs : List UInt8), cs = [.slice a k c] ∧ bs.length = k ∧ Src [rH W] 1 (.slice a k c) k (u8s bs) := by
  rcases open_ints Tryz.underlying22 Tryz.underlying5 cells5 h with ⟨rfl, _⟩ | ⟨ad, len, cap, zs, rfl, _, hl, hm, hz, _, hcell, hw⟩
  · exact ⟨none, 0, 0, [], rfl, rfl, .nil⟩
  · simp only [if_true] at hz
    rcases Nat.eq_zero_or_pos len with h0 | h0
    · subst h0
      exact ⟨some ad, 0, cap, [], rfl, rfl, .emp _ _⟩
    · obtain ⟨b, o, hao, hb1⟩ := cell_ok he (a := ad.add 0) (hcell 0 (by omega)) (fun u p e => by cases e)
      obtain rfl : ad = ⟨b, o, none⟩ := by simpa [Addr.add] using hao
      have hb : ∀ z ∈ zs, 0 ≤ z ∧ z ≤ 255 := fun z hz => bounds_u8 (hw z hz)
      refine ⟨some ⟨b, o, none⟩, len, cap, (zs.take len).map fun z => UInt8.ofNat z.toNat, rfl, by simp; omega, .some b o len cap _ (by simp; omega) (RdN.of fun j v hv => ?_)⟩
      have hj : j < len := by
        have := (List.getElem?_eq_some_iff.1 hv).1
        simp at this; omega
      have hjz : j < zs.length := by omega
      have hc := hcell j hjz
      rw [addr_add] at hc
      have hv' : v = .int .u8 (zs.getD j 0) := by
        simp only [u8s, List.map_map, List.getElem?_map, List.getElem?_take, if_pos hj, List.getElem?_eq_getElem hjz, Option.map_some, Option.some.injEq] at hv
        rw [← hv]
        have := hb _ (List.getElem_mem hjz)
        simp only [Function.comp, List.getD, List.getElem?_eq_getElem hjz, Option.getD_some, Value.int.injEq, true_and]
        have h2 : (UInt8.ofNat (zs[j]).toNat).toNat = (zs[j]).toNat := by simp; omega
        rw [h2]; omega
      rw [hv']
      exact rH_rd hc hb1
/-- calls -/
theorem open_s (he : EofB W) (h : DataW.trod enc Tryz.prog W 0 (fun _ => true) true fuel 24 cs = some x) : ∃ (a : Option Addr) (k c : Nat) (ls : List (Stp × Value)), cs = [.slice a k c] ∧ ls.length = k ∧ Src [rH W] 4 (.slice a k c) k (ls.flatMap stC) ∧ ∀ x ∈ ls, Src [rH W] 1 x.2 x.1.bs.length (u8s x.1.bs) := by
  rcases open_slice Tryz.underlying24 h with ⟨rfl, _⟩ | ⟨ad, len, cap, m, n, D, Pl, rfl, _, hl, hm, hmm, _, hx⟩
  · exact ⟨none, 0, 0, [], rfl, rfl, .nil, fun x hx => by cases hx⟩
  · simp only [if_true] at hmm
    have hel : ∀ i, i < len → ∃ y : Stp × Value, (∀ j v, (stC y)[j]? = some v → W.cell? (ad.add (i * 4 + j)) = some v) ∧ Src [rH W] 1 y.2 y.1.bs.length (u8s y.1.bs) := fun i hi => by
      obtain ⟨cs', h1, h2⟩ := hx i (by omega)
      rw [cells43] at h1
      obtain ⟨_, hlen, hcell⟩ := World.cells?_some h1
      obtain ⟨xs, k, _, _, _, hxl, hf⟩ := DataW.trod_struct Tryz.underlying43 h2
      match xs, hxl, cs', hlen with
      | [y0, y1, y2, y3], _, [v0, v1, v2, v3], _ =>
        have g0 := hf 0 _ rfl
        have g1 := hf 1 _ rfl
        have g2 := hf 2 _ rfl
        have g3 := hf 3 _ rfl
        simp [cells9, cells2, cells22] at g0 g1 g2 g3
        obtain ⟨s, e0, _⟩ := DataW.trod_string Tryz.underlying9 g0
        obtain ⟨z1, e1, _⟩ := DataW.trod_int Tryz.underlying2 g1
        obtain ⟨z2, e2, _⟩ := DataW.trod_int Tryz.underlying2 g2
        obtain ⟨a, kk, c, bs, e3, hbl, hs⟩ := open_b he g3
        simp only [List.cons.injEq, and_true] at e0 e1 e2 e3
        subst e0 e1 e2 e3
        refine ⟨(⟨s, z1, z2, bs⟩, .slice a kk c), fun j v hv => ?_, by dsimp only; rw [hbl]; exact hs⟩
        have hj : j < 4 := (List.getElem?_eq_some_iff.1 hv).1
        have := hcell j hj
        rw [add_add] at this
        rw [this]
        exact hv
    have : Inhabited (Stp × Value) := ⟨(⟨ByteArray.empty, 0, 0, []⟩, .slice none 0 0)⟩
    obtain ⟨f, hf⟩ := choose_lt hel
    have hmem : ∀ x ∈ (List.range len).map f, Src [rH W] 1 x.2 x.1.bs.length (u8s x.1.bs) := fun x hx => by
      obtain ⟨i, hi, rfl⟩ := List.mem_map.1 hx
      exact (hf i (List.mem_range.1 hi)).2
    rcases Nat.eq_zero_or_pos len with h0 | h0
    · subst h0
      exact ⟨some ad, 0, cap, [], rfl, rfl, .emp _ _, fun x hx => by cases hx⟩
    · obtain ⟨b, o, hao, hb1⟩ := cell_ok he ((hf 0 h0).1 0 _ rfl) (fun u p e => by cases e)
      obtain rfl : ad = ⟨b, o, none⟩ := by simpa [Addr.add] using hao
      refine ⟨some ⟨b, o, none⟩, len, cap, (List.range len).map f, rfl, by simp, .some b o len cap _ (by rw [flat_len stC 4 (fun _ => rfl)]; simp) (rdn_flat (n := 4) (fun _ => rfl) _ _ fun i y hy => ?_), hmem⟩
      rw [List.getElem?_map] at hy
      obtain ⟨i', hi', rfl⟩ := Option.map_eq_some_iff.1 hy
      have hil : i < len := by have := (List.getElem?_eq_some_iff.1 hi').1; simpa using this
      obtain rfl : i = i' := by simpa [List.getElem?_range hil] using hi'
      refine RdN.of fun j v hv => ?_
      have := (hf i hil).1 j v hv
      rw [addr_add] at this
      have := rH_rd (L := []) this hb1
      rwa [← Nat.add_assoc] at this
end
end Go.Proofs.YtfebpbflpdppiaaGreatDoor
namespace Go.Proofs.YtfebpbflpdppiaaGreatDoor
open Go Go.Sl Go.ChangeShapes Go.WideShapes Go.ChangeAt Go.RowKit Go.Deep
set_option maxRecDepth 100000
/-- the post-condition of a law: true, and what was there stands -/
theorem post_keep {H : Type} {enc : TypeId × Value → H} {P : Program} {f : Func} {s : ChangeSpec} {W W' : World} {args : Array Value} {v : Value} {ds gs : List (DataW H)} {before pa pv : List MemPlace}
    (hW : DataW.Whole enc P f.params.toList s.vars false W args.toList ds gs before)
    (hres : ∀ (b : Nat) (sp : Nat → Bool) (hd : Bool), DataW.TrodAll enc P W' b sp hd f.resultTypes.toList (v.resultList f.resultTypes.size) (s.fn H (ds ++ gs)).results [])
    (hargs : DataW.TrodAll enc P W' 0 (fun b => decide (b < W.heap.size)) true f.params.toList args.toList (s.fn H (ds ++ gs)).args pa)
    (hvars : DataW.TrodVars enc P W' (fun b => decide (b < W.heap.size)) s.vars (s.fn H (ds ++ gs)).vars pv)
    (hk : Below W.heap.size W W') : s.post enc P f false true false false W args v W' :=
  ⟨ds, gs, before, [], pa, pv, hW, hres _ _ _, hargs, hvars, hk.frame _, fun h => by cases h⟩
theorem laidOut : laidOutB Tryz.prog = true := by kernel_rfl
theorem rd22 : Tryz.prog.readableRec 22 = true := by kernel_rfl
theorem rd24 : Tryz.prog.readableRec 24 = true := by kernel_rfl
theorem row22 : 22 < Tryz.prog.types.size := of_decide_eq_true (by kernel_rfl)
theorem row24 : 24 < Tryz.prog.types.size := of_decide_eq_true (by kernel_rfl)
theorem row154 (u : TypeId) (h : Tryz.prog.typeName? 3 u = some "*errors.errorString") : u = 154 :=
  typeName_ptr_named (nm := "errors.errorString") (by rw [show "*" ++ "errors.errorString" = "*errors.errorString" from by decide]; kernel_rfl) (by kernel_rfl) (by decide) u (by rw [show "*" ++ "errors.errorString" = "*errors.errorString" from by decide]; exact h)
theorem cells216 : Tryz.prog.cellsOf 216 = 1 := by kernel_rfl
theorem gEof : Tryz.prog.globalNamed "pub-stonevault/pub/lldb.zzEOF" = some 1 := by kernel_rfl
/-- what the row lists of zzEOF, as a cell -/
theorem eofB_of {W : World} (h : laidMetH Tryz.prog Rows.fnFilesLevelsRow.laid W) : EofB W := by
  have hL : laidMet Tryz.prog Rows.fnFilesLevelsRow.laid W := h
  obtain ⟨a, s, hv, _⟩ := laid_sentinel (P := Tryz.prog) hL gEof (by kernel_rfl) Tryz.underlying50 row154 Tryz.underlying154 Tryz.underlying216 rfl rfl Tryz.underlying9 cells216 cells9
  simp only [World.var?, gEof, Option.bind_some] at hv
  split at hv
  · rename_i cs t fz hh
    have e := Option.some.inj hv
    subst e
    exact ⟨a, t, fz, hh⟩
  · cases hv
theorem eof_rd {W : World} (h : EofB W) : ∃ ea, Rd [gH W] ⟨1, 0, none⟩ (eofV ea) := by
  obtain ⟨a, t, fz, hh⟩ := h
  exact ⟨a, gH_rd (by simp [World.cell?, hh])⟩
/-- a slice that came in -/
theorem arg_sl {t e : TypeId} {W : World} {base : Nat} {v : Value} (ht : Tryz.prog.underlying t = some (.slice e)) (h : Value.okWide Tryz.prog W .any base t v) : ∃ a k c, v = .slice a k c := okWide_slice ht h
theorem contractL (H : Type) (enc : TypeId × Value → H) (W : World) (base : Nat) (args : Array Value) (ds gs : List (DataW H)) (before : List MemPlace)
    (hval : ∀ (j : Nat) t v, Tryz.f4.params[j]? = some t → args[j]? = some v → Value.okWide Tryz.prog W .any base t v)
    (hW : DataW.Whole enc Tryz.prog Tryz.f4.params.toList Rows.fnFilesLevelsSpec.vars false W args.toList ds gs before) (he : EofB W) :
    Calls Tryz.prog 4 args W fun e W' => ∃ v, e = .returned v ∧ Rows.fnFilesLevelsSpec.post enc Tryz.prog Tryz.f4 false true false false W args v W' := by
  have hW' := hW
  have hlt := hW.lt
  obtain ⟨p, q, hA0, hV, rfl, hfz, hnd⟩ := hW
  have hA : DataW.TrodAll enc Tryz.prog W 0 (fun _ => true) true Tryz.f4.params.toList args.toList ds p := hA0
  rw [Tryz.params4] at hA hval
  obtain ⟨v0, v1, v2, v3, d0, d1, d2, d3, p0, p1, p2, p3, rfl, rfl, rfl, h0, h1, h2, h3⟩ := trodAll_four hA
  obtain ⟨rfl, rfl⟩ := trodVars_none hV
  obtain ⟨a0, k0, c0, rfl⟩ := arg_sl Tryz.underlying22 (hval 0 22 v0 rfl rfl)
  obtain ⟨a1, k1, c1, rfl⟩ := arg_sl Tryz.underlying24 (hval 1 24 v1 rfl rfl)
  obtain ⟨a2, k2, c2, rfl⟩ := arg_sl Tryz.underlying24 (hval 2 24 v2 rfl rfl)
  obtain ⟨a3, k3, c3, rfl⟩ := arg_sl Tryz.underlying24 (hval 3 24 v3 rfl rfl)
  obtain ⟨f0, g0⟩ := h0
  obtain ⟨f1, g1⟩ := h1
  obtain ⟨f2, g2⟩ := h2
  obtain ⟨f3, g3⟩ := h3
  obtain ⟨a, k, c, bs, e0, hb, hs0⟩ := open_b he g0
  simp only [Value.cells, List.cons.injEq, Value.slice.injEq, and_true] at e0
  obtain ⟨rfl, rfl, rfl⟩ := e0
  obtain ⟨a, k, c, xa, e1, hla, ha1, ha2⟩ := open_s he g1
  simp only [Value.cells, List.cons.injEq, Value.slice.injEq, and_true] at e1
  obtain ⟨rfl, rfl, rfl⟩ := e1
  obtain ⟨a, k, c, xb, e2, hlb, hb1, hb2⟩ := open_s he g2
  simp only [Value.cells, List.cons.injEq, Value.slice.injEq, and_true] at e2
  obtain ⟨rfl, rfl, rfl⟩ := e2
  obtain ⟨a, k, c, xc, e3, hlc, hc1, hc2⟩ := open_s he g3
  simp only [Value.cells, List.cons.injEq, Value.slice.injEq, and_true] at e3
  obtain ⟨rfl, rfl, rfl⟩ := e3
  obtain ⟨ea, hrd⟩ := eof_rd he
  refine (FnFilesLevels_c hrd bs a0 k0 c0 hs0 xa a1 k1 c1 ha1 hla ha2 xb a2 k2 c2 hb1 hlb hb2 xc a3 k3 c3 hc1 hlc hc2 _ [] W (two_sat W)).mono fun e W' he => ?_
  cases e with
  | returned v =>
    obtain ⟨B, ⟨rfl, rfl⟩, hB⟩ := he
    have hbel := two_below hB
    have hlt' : ∀ x ∈ p0 ++ (p1 ++ (p2 ++ p3)), x.block < W.heap.size := fun x hx => by simpa using hlt x (by simpa using hx)
    exact ⟨_, rfl, post_keep (pa := p0 ++ (p1 ++ (p2 ++ p3))) (pv := []) hW' (fun _ _ _ => trodAll_mk1 (shut_bool Tryz.underlying4 _))
      (trodAll_mk4 (Below.trod laidOut rd22 row22 ⟨f0, g0⟩ hbel fun x hx => hlt' x (by simp [hx])) (Below.trod laidOut rd24 row24 ⟨f1, g1⟩ hbel fun x hx => hlt' x (by simp [hx])) (Below.trod laidOut rd24 row24 ⟨f2, g2⟩ hbel fun x hx => hlt' x (by simp [hx])) (Below.trod laidOut rd24 row24 ⟨f3, g3⟩ hbel fun x hx => hlt' x (by simp [hx]))) rfl hbel⟩
  | panicked c => obtain ⟨B, hR, _⟩ := he; exact hR.elim
  | outgrown => exact he.elim
theorem own_ : ownKnob Tryz.prog.godebug = none := by kernel_rfl
noncomputable def low : Nat := (World.holding Tryz.prog default ⟨#[], #[], []⟩).heap.size
abbrev eofS : ByteArray := { data := #[69, 79, 70] }
abbrev faultS : ByteArray := { data := #[116, 104, 101, 32, 102, 105, 108, 101, 32, 102, 97, 105, 108, 101, 100] }
/-- a world for the witness: the two variables as the program's text lays them -/
noncomputable def laidWorld (os : Os) : World :=
  let w0 := World.holding Tryz.prog os ⟨#[.cells #[.string eofS] 216, .cells #[.string faultS] 216], #[], []⟩
  { w0 with heap := (w0.heap.modify 1 fun
      | .cells _ t frozen => .cells #[.iface 154 (.pointer (some ⟨low, 0, none⟩))] t frozen
      | o => o).modify 0 fun
      | .cells _ t frozen => .cells #[.iface 154 (.pointer (some ⟨low + 1, 0, none⟩))] t frozen
      | o => o }
theorem laid_met (os : Os) (args : Array Value) : laidMet Tryz.prog Rows.fnFilesLevelsRow.laid ((laidWorld os).forCall (fun _ _ => 0) ⟨#[], args, []⟩).memory :=
  laidMet_of_run (ps := [.cell 1 0, .cell low 0, .cell 0 0, .cell (low + 1) 0]) 8 (by kernel_rfl) (by kernel_rfl) (by kernel_rfl)
abbrev noneL : Array Value := #[.slice none 0 0, .slice none 0 0, .slice none 0 0, .slice none 0 0]
theorem readsL (os : Os) {H : Type} (enc : TypeId × Value → H) : ∃ places, DataW.whole enc Tryz.prog ((laidWorld os).forCall (fun _ _ => 0) ⟨#[], noneL, []⟩).memory Tryz.f4.params.toList Rows.fnFilesLevelsSpec.vars false noneL.toList 8 = some ([.nil, .nil, .nil, .nil], [], places) :=
  ⟨[], by kernel_rfl⟩
theorem liftedL (os : Os) (started : os.Started) (H : Type) (enc : TypeId × Value → H) (F : Stop.Interp) :
    ReturnsInHanded {} Tryz.checked os 4 .any ((OpenSpec.ofChange Rows.fnFilesLevelsSpec).preRow enc Tryz.prog Tryz.f4 Rows.fnFilesLevelsRow.domain false Rows.fnFilesLevelsRow.laid) (((OpenSpec.ofChange Rows.fnFilesLevelsSpec).at F).post enc Tryz.prog Tryz.f4 false true false false) := by
  obtain ⟨places, hx⟩ := readsL os enc
  refine returnsInHanded_of_row (C := Tryz.checked) (s := OpenSpec.ofChange Rows.fnFilesLevelsSpec) own_ started (by kernel_rfl) Tryz.func4
    (witness_row_at (enc := enc) (C := Tryz.checked) false (laidWorld os) noneL rfl (by kernel_rfl) (by kernel_rfl) (by kernel_rfl)
      (OpenSpec.preRow_of_cond 8 hx (by kernel_rfl) (fun k hk => by cases hk) (by kernel_rfl) (laid_met os _))) ?_
  intro W base args ds gs before hval hW _ _ _ hL _ _
  exact contractL H enc W base args ds gs before hval hW (eofB_of hL)
theorem saidL_ : Rows.FnFilesLevelsSaid :=
  OpenClaim.holds_of_cond 4 Tryz.f4 rfl rfl rfl rfl rfl rfl rfl ⟨rfl, rfl, rfl, rfl, rfl⟩ rfl rfl rfl rfl rfl (by kernel_rfl) Tryz.func4 (by kernel_rfl)
    (of_decide_eq_true (by kernel_rfl)) (by unfold Func.isWrapper; first | (rw [if_pos (by decide +kernel)]; kernel_rfl) | (rw [if_neg (by decide +kernel)]; exact ⟨rfl, rfl⟩))
    (fun os started H enc _ F => by rw [OpenClaim.pre_eq_preRow]; exact liftedL os started H enc F)
theorem plainL (f : FuncId) (fn : Func) (hf : Tryz.pinned.checked.prog.funcNamed "pub-stonevault/laws.FnFilesLevels" = some f) (hfn : Tryz.pinned.checked.prog.funcs[f]? = some fn) :
    true = Tryz.pinned.checked.prog.looks [] ∧ ∀ (j : Nat) t, fn.params[j]? = some t → Tryz.pinned.checked.prog.wantsStandIn t = false := by
  obtain rfl : f = 4 := Option.some.inj ((show Tryz.prog.funcNamed "pub-stonevault/laws.FnFilesLevels" = some 4 by kernel_rfl).symm.trans hf) |>.symm
  obtain rfl : fn = Tryz.f4 := (Option.some.inj (Tryz.func4.symm.trans hfn)).symm
  refine ⟨by kernel_rfl, fun j t ht => ?_⟩
  rw [Tryz.params4] at ht
  obtain rfl | rfl : t = 22 ∨ t = 24 := by simpa using Array.mem_of_getElem? ht
  · exact (show Tryz.prog.wantsStandIn 22 = false by kernel_rfl)
  · exact (show Tryz.prog.wantsStandIn 24 = false by kernel_rfl)
/-- THE CARD: FnFilesLevels -/
theorem cardL : Rows.FnFilesLevelsCardSaid :=
  Claim7.holds_tied_plain_at .later [] _ _ _ _ saidL_ (fun _ h => by cases h) (by kernel_rfl) (fun _ h => by cases h) fnFilesLevels_row_tie rfl ⟨rfl, rfl⟩ (by kernel_rfl) rfl plainL (by kernel_rfl)
end Go.Proofs.YtfebpbflpdppiaaGreatDoor
#print axioms Go.Proofs.YtfebpbflpdppiaaGreatDoor.cardL
