/- FnFiles is proved: whatever layers over whatever bytes, whatever calls: a plain list of bytes, with a copy for each level that was begun (the tied card, the full form). Conditions: those of the given row: the package-level variables zzEOF and ZzFault read as the program's text lays them, which the card ties. Ahead of it, in this text: what comes in; the walk of the law's last functions. -/
import Derived.Test.YtfebpbflpdppiaaGreatDoorF22
import Derived.Test.YtfebpbflpdppiaaGreatDoorCards
import Derived.Test.YtfebpbflpdppiaaGreatDoorTie
import Derived.WalkKit
import Derived.ProofKit
import Derived.OpenShut
import Derived.Carry
import Derived.Deep.Slices
import Derived.Deep.SlicePairs
import Derived.Deep.DeepHandedRow
import Derived.Stop.LaidErr
namespace Go.Proofs.YtfebpbflpdppiaaGreatDoor
open Go Go.Sl
set_option maxRecDepth 100000
section
variable {P : Program} {n : Nat} {ds : List Deferred} {σ : Env} {m : Amb} {L R : List HP} {Q : Exit → Act → World → Prop} {K : Act → World → Prop}
variable {d : Nat} {ty : TypeId} {pos : String} {aft : Array Edge} {gd : Option (Nat × Bool)} {x : Operand} {t e : TypeId}
/-- []byte("..") of a literal: the row is marked -/
theorem s_convS {i b k c : Nat} {l : List Value} [h1 : TyU P t (.slice e)] [h2 : TyU P e (.int .u8)] (hx : opd σ x = some (.slice (some ⟨b, 0, none⟩) k c)) (hi : takeAt i L = some (blk b (cl l e), R)) (hk : Nat.blt d n = true)
    (h : G n ds ((d, .slice (some ⟨b, 0, none⟩) k c) :: σ) m (ro b e l :: R) K) : G n ds σ m L (St P ⟨some d, .convert t t x, ty, pos, aft, gd⟩ K Q) := by
  refine s_eff rfl hk fun a w g hw => ?_
  have hb := hw.at_ hi
  have hlt : b < w.heap.size := (Array.getElem?_eq_some_iff.1 hb).1
  have hfz : w.freeze ⟨b, l.length, none⟩ 1 = { w with heap := w.heap.setIfInBounds b (.cells l.toArray e (l.length, l.length + 1)) } := by
    unfold World.freeze
    rw [if_neg (by decide)]
    congr 1
    apply Array.ext_getElem?
    intro j
    rw [Array.getElem?_modify, Array.getElem?_setIfInBounds]
    by_cases hj : b = j
    · subst hj
      rw [if_pos rfl, if_pos rfl, if_pos hlt, hb]
      simp [cl]
    · rw [if_neg hj, if_neg hj]
  refine ⟨.slice (some ⟨b, 0, none⟩) k c, _, ?_, _, (Sat.setObj hw hi (.cells l.toArray e (l.length, l.length + 1))).ent (Ent.imp fun hp hh => ⟨_, _, hh, by simp⟩), h⟩
  have hsh : w.heap[b]? = some (.cells l.toArray e (0, 0)) := hb
  simp only [execOp, opd_eval g hx]
  have hsp : w.shape? b = some (e, l.length) := by simp [World.shape?, hb, cl]
  simp [convert, run_und h1, run_und h2, markStringish, hsp, hfz]
end
attribute [local irreducible] wpList Code.wp Exit.then Exit.inBlock bodyPost RunS RunV G St Ct Sat Ent At Rd GQ QL wpAny wpOp wpQuiet slP Sl.ex sep
section
variable {glb : HP} {ea : Addr}
set_option maxHeartbeats 8000000 in
theorem awake_c (hglb : Rd [glb] ⟨1, 0, none⟩ (eofV ea)) : Ct Tryz.prog 8 #[] [glb] (fun v B => v = .bool true ∧ B = [glb]) nev := by
  refine Ct.of Tryz.func8 rfl Tryz.ntmps8 rfl fun m F => ?_
  repeat (first | refine wZ ?_ | intro b)
  refine G.ent (L' := sep [] :: glb :: F) (sep_shut [] _) ?_
  refine l_plain rfl (s_call rfl rfl (copied_c (I := sep []) [] none 0 0 Src.nil (by omega)) [0] rfl ?_ (fun _ _ h => h.elim))
  rintro _ _ ⟨a1, c1, rfl, rfl⟩
  repeat (first | refine wZ ?_ | intro b)
  revert b; intro xb
  refine l_plain rfl (s_convS (i := 0) rfl rfl rfl ?_)
  refine l_plain rfl ?_
  apply s_val rfl rfl
  · exact RunS.v (r_build (cells := #[.string sWrite, .int .i64 0, .int .i64 0, .slice (some ⟨xb, 0, none⟩) 1 1]) rfl (by kernel_rfl))
  refine l_plain rfl ?_
  apply s_val rfl rfl
  · exact RunS.v (r_build (cells := #[.string sSize, .int .i64 0, .int .i64 0, .slice none 0 0]) rfl (by kernel_rfl))
  refine l_plain rfl (s_build (size := 4) (vs := [.agg #[.string sWrite, .int .i64 0, .int .i64 0, .slice (some ⟨xb, 0, none⟩) 1 1], .agg #[.string sSize, .int .i64 0, .int .i64 0, .slice none 0 0]]) (l := [(aw0, .slice (some ⟨xb, 0, none⟩) 1 1), (aw1, .slice none 0 0)].flatMap stC) rfl rfl rfl rfl rfl (by intro v hv; simp at hv; rcases hv with rfl | rfl <;> rfl) (by simp [Value.cells, stC, aw0, aw1]) rfl rfl fun stb => ?_)
  refine G.ent (Ent.trans (arr_ent 0 [0, 0] _) (sep_shut [_, _] _)) ?_
  generalize hI1 : sep [blk stb (cl ([(aw0, Value.slice (some ⟨xb, 0, none⟩) 1 1), (aw1, Value.slice none 0 0)].flatMap stC) 43), ro xb 5 [.int .u8 120]] = I1
  have hsx : Src [I1] 1 (.slice (some ⟨xb, 0, none⟩) 1 1) 1 (u8s [120]) := by
    rw [← hI1]
    exact Src.some _ _ _ _ _ rfl (RdN.ent (rdn_ro (L := [ro xb 5 [.int .u8 120]]) 0 rfl) sep2_r)
  have hss : Src [I1] 4 (.slice (some ⟨stb, 0, none⟩) 2 2) 2 ([(aw0, Value.slice (some ⟨xb, 0, none⟩) 1 1), (aw1, Value.slice none 0 0)].flatMap stC) := by
    rw [← hI1]
    exact Src.some _ _ _ _ _ rfl (RdN.ent (rdn_all (L := [blk stb (cl ([(aw0, Value.slice (some ⟨xb, 0, none⟩) 1 1), (aw1, Value.slice none 0 0)].flatMap stC) 43)]) 0 rfl) sep2_l)
  refine l_plain rfl (s_call rfl rfl (copies_c (I := I1) [(aw0, Value.slice (some ⟨xb, 0, none⟩) 1 1), (aw1, Value.slice none 0 0)] (fun x hx => by
    simp only [List.mem_cons, List.not_mem_nil, or_false] at hx
    rcases hx with rfl | rfl
    · exact ⟨show 1 ≤ 131072 by decide, hsx⟩
    · exact ⟨show 0 ≤ 131072 by decide, Src.nil⟩) (some ⟨stb, 0, none⟩) 2 2 hss rfl (by omega)) [0] rfl ?_ (fun _ _ h => h.elim))
  rintro _ _ ⟨a2, c2, ls', W, rfl, hm, hW, rfl⟩
  refine G.ent (Ent.trans (arr_ent 0 [4] _) (Ent.refl _)) ?_
  refine src_sl1 fun hi1 hi2 => ?_
  refine G.ent (Ent.trans (arr_ent 0 [2] _) (Ent.refl _)) ?_
  refine src_sl1 fun hs1 hs2 => ?_
  have hml : ls'.map (·.1) = [aw0, aw1] := hm
  have hll : ls'.length = 2 := by have := congrArg List.length hml; simpa using this
  have hfw : ∀ x ∈ ls', x.1.few := fun x hx => by
    have h1 : x.1 ∈ ls'.map (·.1) := List.mem_map.2 ⟨x, hx, rfl⟩
    rw [hml] at h1
    simp only [List.mem_cons, List.not_mem_nil, or_false] at h1
    rcases h1 with h1 | h1 <;> rw [h1]
    · exact ⟨⟨by decide, by decide⟩, ⟨by decide, by decide⟩, by decide⟩
    · exact ⟨⟨by decide, by decide⟩, ⟨by decide, by decide⟩, by decide⟩
  refine G.ent (L' := glb :: sep [slP (.slice a1 0 c1) 5 1 (u8s []), slP (.slice a2 2 c2) 43 4 (ls'.flatMap stC), W] :: F) (Ent.trans (arr_ent 2 [5, 1, 0, 1] _) (Ent.cons (sep_shut [_, _, _] F))) ?_
  generalize hI2 : sep [slP (.slice a1 0 c1) 5 1 (u8s []), slP (.slice a2 2 c2) 43 4 (ls'.flatMap stC), W] = I2
  have hp : ∀ (i : Nat) (A : HP) (R : List HP), takeAt i [slP (.slice a1 0 c1) 5 1 (u8s []), slP (.slice a2 2 c2) 43 4 (ls'.flatMap stC), W] = some (A, R) → Ent [I2] [A] := fun i A R h => by
    rw [← hI2]
    exact (sep_open [_, _, _] []).trans (Ent.pick1 (i := i) h)
  refine l_plain rfl (s_call rfl rfl (Files_c hglb [] a1 0 c1 (hi1.ent (hp 0 _ _ rfl)) hi2 (by omega) [] none 0 0 .nil rfl (by omega) (fun y hy => by cases hy) ls' a2 2 c2 (hs1.ent (hp 1 _ _ rfl)) hll (by omega) (fun x hx => ⟨hfw x hx, (hW x hx).ent (hp 2 _ _ rfl)⟩)) [0, 0] rfl ?_ (fun _ _ h => h.elim))
  rintro _ _ ⟨ta, tc, ov', pa, pc, TL, σ, hF, rfl, rfl⟩
  rw [hml] at hF
  obtain ⟨q, d1, d2, hT, hr⟩ := awake_plain hF
  have hlen : TL.length = 2 := by have := congrArg List.length hT; simpa using this
  obtain ⟨hc0, hc4⟩ : (TL.flatMap tdC)[0]? = some (.int .i64 0) ∧ (TL.flatMap tdC)[4]? = some (.int .i64 1) := by
    cases TL with
    | nil => cases hlen
    | cons x TL =>
      cases TL with
      | nil => cases hlen
      | cons y TL =>
        simp only [List.map_cons, List.cons.injEq] at hT
        simp [tdC, hT.1, hT.2.1]
  have hne : TL.flatMap tdC ≠ [] := fun h => by rw [h] at hc0; cases hc0
  rw [hr, hlen]
  generalize TL.flatMap tdC = cs at hc0 hc4 hne
  generalize σ.l.length = pl
  refine G.ent (Ent.trans (arr_ent 0 [2] _) (Ent.refl _)) ?_
  refine slP_some hne fun tb htb _ _ _ => ?_
  subst htb
  refine G.ent (Ent.trans (arr_ent 0 [4] _) (Ent.refl _)) ?_
  refine td_src fun oa oc hov hol hos => ?_
  have hov : ov' = .slice oa 1 oc := hov
  subst hov
  repeat (first | refine wZ ?_ | intro b)
  refine l_yes rfl rfl rfl ?_
  apply s_val rfl rfl
  · exact RunS.v (r_index (i := 0) rfl rfl rfl (by decide))
  repeat (first | refine wZ ?_ | intro b)
  refine l_yes rfl rfl rfl ?_
  apply s_val rfl rfl
  · exact r_load rfl rfl (rd_sl 1 rfl hc0)
  repeat (first | refine wZ ?_ | intro b)
  refine l_yes rfl rfl rfl ?_
  apply s_val rfl rfl
  · exact RunS.v (r_index (i := 1) rfl rfl rfl (by decide))
  repeat (first | refine wZ ?_ | intro b)
  refine l_yes rfl rfl rfl ?_
  apply s_val rfl rfl
  · exact r_load rfl rfl (rd_sl 1 rfl hc4)
  repeat (first | refine wZ ?_ | intro b)
  refine l_yes rfl rfl rfl ?_
  apply s_val rfl rfl
  · exact r_bStr (bs := [120]) rfl (Src.ent hos (Ent.pick1 (i := 0) rfl)) rfl
  repeat (first | refine wZ ?_ | intro b)
  exact e_ret1 _ rfl rfl ⟨rfl, rfl⟩ (arr_ent 5 [2] _)
end
end Go.Proofs.YtfebpbflpdppiaaGreatDoor
namespace Go.Proofs.YtfebpbflpdppiaaGreatDoor
open Go Go.Sl
set_option maxRecDepth 100000
attribute [local irreducible] wpList Code.wp Exit.then Exit.inBlock bodyPost RunS RunV G St Ct Sat Ent At Rd GQ QL wpAny wpOp wpQuiet slP Sl.ex sep
end Go.Proofs.YtfebpbflpdppiaaGreatDoor
namespace Go.Proofs.YtfebpbflpdppiaaGreatDoor
open Go Go.Sl
set_option maxRecDepth 100000
theorem cf_le : ∀ (l : List (ByteArray × Int)), (∀ y ∈ l, 0 ≤ y.2 ∧ y.2 ≤ 65536) → ∀ g : Cf, ((l.map kindO).foldl cfAdd g).T + ((l.map kindO).foldl cfAdd g).u ≤ g.T + g.u + 65536 * l.length
  | [], _, g => by simp
  | y :: l, h, g => by
    have ih := cf_le l (fun z hz => h z (by simp [hz])) (cfAdd g (kindO y))
    have h2 := h y (by simp)
    simp only [List.map_cons, List.foldl_cons, List.length_cons]
    by_cases hin : y.1 = sInner
    · rw [(lyY_in hin).2] at ih ⊢
      have h1 := cfAdd_le g (some y.2.toNat)
      dsimp only at h1
      omega
    · rw [(lyY_ro hin).2] at ih ⊢
      have h1 := cfAdd_le g none
      dsimp only at h1
      omega
/-- how much a run leaves -/
theorem fres_len {ib : List UInt8} {ly : List (ByteArray × Int)} {steps : List Stp} {TT : List Tld} {σ : MS} (hF : FRes (cfOf (ly.map kindO)) ⟨ov (fun _ => 0) 0 ib, ib.length, [], .idle⟩ steps TT σ) (hi : ib.length ≤ 65536) (hl : ly.length ≤ 6) (ho : ∀ y ∈ ly, 0 ≤ y.2 ∧ y.2 ≤ 65536) (hf : ∀ x ∈ steps, x.few) : σ.l.length ≤ steps.length ∧ TT.length ≤ steps.length := by
  have hg : (cfOf (ly.map kindO)).T + (cfOf (ly.map kindO)).u ≤ 400000 := by
    have h : (cfOf (ly.map kindO)).T + (cfOf (ly.map kindO)).u ≤ 0 + 0 + 65536 * ly.length := cf_le ly ho cf0
    omega
  have h0 : (⟨ov (fun _ => 0) 0 ib, ib.length, [], .idle⟩ : MS).bnd (cfOf (ly.map kindO)) 0 := ⟨by dsimp only; omega, Nat.le_refl _, trivial⟩
  rcases hF with hr | ⟨pre, x, post, tl, rfl, hr, hb, rfl⟩
  · exact ⟨(Run.bnd hg h0 hr hf).2.1, Nat.le_of_eq hr.len⟩
  · have h1 := (Run.bnd hg h0 hr fun x hx => hf x (List.mem_append_left _ hx)).2.1
    have h2 := hr.len
    simp only [List.length_append, List.length_cons, List.length_nil]
    omega
attribute [local irreducible] wpList Code.wp Exit.then Exit.inBlock bodyPost RunS RunV G St Ct Sat Ent At Rd GQ QL wpAny wpOp wpQuiet slP Sl.ex sep
section
variable {glb I : HP} {ea : Addr}
set_option maxHeartbeats 16000000 in
theorem FnFiles_c (hglb : Rd [glb] ⟨1, 0, none⟩ (eofV ea)) (ib : List UInt8) (ia : Option Addr) (ni nc : Nat) (hi : Src [I] 1 (.slice ia ni nc) ni (u8s ib))
    (ly : List (ByteArray × Int)) (ya : Option Addr) (ny yc : Nat) (hy : Src [I] 2 (.slice ya ny yc) ny (ly.flatMap lyC)) (hly : ly.length = ny)
    (ls : List (Stp × Value)) (la : Option Addr) (nl lc : Nat) (hl : Src [I] 4 (.slice la nl lc) nl (ls.flatMap stC)) (hll : ls.length = nl) (hls : ∀ x ∈ ls, Src [I] 1 x.2 x.1.bs.length (u8s x.1.bs)) :
    Ct Tryz.prog 3 #[.slice ia ni nc, .slice ya ny yc, .slice la nl lc] [glb, I] (fun v B => v = .bool true ∧ B = [glb, I]) nev := by
  have hkl : ib.length = ni := by have := hi.len; simpa using this
  have hsl : ∀ x ∈ ls, ∃ a c, x.2 = .slice a x.1.bs.length c := fun x hx => src_slc (hls x hx)
  refine Ct.of Tryz.func3 rfl Tryz.ntmps3 rfl fun m F => ?_
  repeat (first | refine wZ ?_ | intro b)
  by_cases hb1 : (2147483647 : Int) < (ni : Int)
  · rw [decide_eq_true hb1]
    repeat (first | refine wZ ?_ | intro b)
    exact e_ret1 _ rfl rfl ⟨rfl, rfl⟩ (Ent.refl _)
  rw [decide_eq_false hb1]
  repeat (first | refine wZ ?_ | intro b)
  refine l_yes rfl rfl rfl (s_call rfl rfl (zz1_c ly ya ny yc hy hly) [1] rfl ?_ (fun _ _ h => h.elim))
  rintro _ _ ⟨⟨q1, rfl⟩, rfl⟩
  refine G.ent (L' := glb :: I :: F) (arr_ent 0 [1, 0] _) ?_
  cases q1 with
  | false =>
    repeat (first | refine wZ ?_ | intro b)
    exact e_ret1 _ rfl rfl ⟨rfl, rfl⟩ (Ent.refl _)
  | true =>
  repeat (first | refine wZ ?_ | intro b)
  refine l_yes rfl rfl rfl (s_call rfl rfl (zz3_c ls (fun x hx => by obtain ⟨a, c, h⟩ := hsl x hx; exact ⟨a, _, c, h⟩) la nl lc hl hll) [1] rfl ?_ (fun _ _ h => h.elim))
  rintro _ _ ⟨⟨q2, rfl, hq2⟩, rfl⟩
  refine G.ent (L' := glb :: I :: F) (arr_ent 0 [1, 0] _) ?_
  cases q2 with
  | false =>
    repeat (first | refine wZ ?_ | intro b)
    exact e_ret1 _ rfl rfl ⟨rfl, rfl⟩ (Ent.refl _)
  | true =>
  have hnl := hq2 rfl
  repeat (first | refine wZ ?_ | intro b)
  by_cases hb2 : (65536 : Int) < (ni : Int)
  · rw [decide_eq_true hb2]
    repeat (first | refine wZ ?_ | intro b)
    refine l_plain rfl (s_call rfl rfl (awake_c hglb) [0] rfl ?_ (fun _ _ h => h.elim))
    rintro _ _ ⟨rfl, rfl⟩
    repeat (first | refine wZ ?_ | intro b)
    exact e_ret1 _ rfl rfl ⟨rfl, rfl⟩ (Ent.refl _)
  rw [decide_eq_false hb2]
  repeat (first | refine wZ ?_ | intro b)
  by_cases hb3 : (6 : Int) < (ny : Int)
  · rw [decide_eq_true hb3]
    repeat (first | refine wZ ?_ | intro b)
    refine l_plain rfl (s_call rfl rfl (awake_c hglb) [0] rfl ?_ (fun _ _ h => h.elim))
    rintro _ _ ⟨rfl, rfl⟩
    repeat (first | refine wZ ?_ | intro b)
    exact e_ret1 _ rfl rfl ⟨rfl, rfl⟩ (Ent.refl _)
  rw [decide_eq_false hb3]
  repeat (first | refine wZ ?_ | intro b)
  refine l_yes rfl rfl rfl (s_call rfl rfl (few_c ls hsl la nl lc hl hll hnl) [1] rfl ?_ (fun _ _ h => h.elim))
  rintro _ _ ⟨⟨q3, rfl, hq3⟩, rfl⟩
  refine G.ent (L' := glb :: I :: F) (arr_ent 0 [1, 0] _) ?_
  cases q3 with
  | false =>
    repeat (first | refine wZ ?_ | intro b)
    refine l_plain rfl (s_call rfl rfl (awake_c hglb) [0] rfl ?_ (fun _ _ h => h.elim))
    rintro _ _ ⟨rfl, rfl⟩
    repeat (first | refine wZ ?_ | intro b)
    exact e_ret1 _ rfl rfl ⟨rfl, rfl⟩ (Ent.refl _)
  | true =>
  obtain ⟨hfew, h60⟩ := hq3 rfl
  clear hq2 hq3
  repeat (first | refine wZ ?_ | intro b)
  refine c_loop (α := Nat) (fun y => [(7, .int .i64 (y : Nat)), (0, .slice ia ni nc), (1, .slice ya ny yc), (2, .slice la nl lc)]) (fun _ => glb :: I :: F) (fun y => y ≤ ny ∧ ∀ z ∈ ly.take y, 0 ≤ z.2 ∧ z.2 ≤ 65536) (fun y => ny - y) 0 ⟨Nat.zero_le _, fun z hz => by simp at hz⟩ (by exact ⟨rfl, rfl, rfl, rfl, trivial⟩) (Ent.refl _) ?_
  rintro i ⟨hin, hin2⟩
  by_cases hlt : i < ny
  · obtain ⟨yb, yo, rfl, hyr⟩ := src_addr hy (by omega)
    obtain ⟨⟨kd, yoff⟩, hx⟩ : ∃ x, ly[i]? = some x := ⟨ly[i]'(by omega), List.getElem?_eq_getElem (by omega)⟩
    have htk : ly.take (i + 1) = ly.take i ++ [(kd, yoff)] := by rw [List.take_add_one, hx]; rfl
    have hrd : RdN [I] yb (yo + i * 2) [.string kd, .int .i64 yoff] := rd_part (f := lyC) (fun _ => rfl) hyr hx
    repeat (first | refine wZ ?_ | intro b)
    rw [decide_eq_true (by omega : (i : Int) < (ny : Int))]
    repeat (first | refine wZ ?_ | intro b)
    refine l_plain rfl ?_
    apply s_val rfl rfl
    · exact RunS.v (r_index (i := i) rfl rfl rfl hlt)
    repeat (first | refine wZ ?_ | intro b)
    refine l_plain rfl ?_
    apply s_val (v := .int .i64 yoff) rfl rfl
    · exact r_load rfl rfl ((RdN.ent hrd (Ent.pick1 (i := 1) rfl)).get (j := 1) rfl)
    repeat (first | refine wZ ?_ | intro b)
    by_cases h1 : yoff < 0
    · rw [decide_eq_true h1]
      repeat (first | refine wZ ?_ | intro b)
      refine l_plain rfl (s_call rfl rfl (awake_c hglb) [0] rfl ?_ (fun _ _ h => h.elim))
      rintro _ _ ⟨rfl, rfl⟩
      repeat (first | refine wZ ?_ | intro b)
      exact e_ret1 _ rfl rfl ⟨rfl, rfl⟩ (Ent.refl _)
    rw [decide_eq_false h1]
    repeat (first | refine wZ ?_ | intro b)
    refine l_yes rfl rfl rfl ?_
    apply s_val rfl rfl
    · exact RunS.v (r_index (i := i) rfl rfl rfl hlt)
    repeat (first | refine wZ ?_ | intro b)
    refine l_yes rfl rfl rfl ?_
    apply s_val (v := .int .i64 yoff) rfl rfl
    · exact r_load rfl rfl ((RdN.ent hrd (Ent.pick1 (i := 1) rfl)).get (j := 1) rfl)
    repeat (first | refine wZ ?_ | intro b)
    by_cases h2 : 65536 < yoff
    · rw [decide_eq_true h2]
      repeat (first | refine wZ ?_ | intro b)
      refine l_plain rfl (s_call rfl rfl (awake_c hglb) [0] rfl ?_ (fun _ _ h => h.elim))
      rintro _ _ ⟨rfl, rfl⟩
      repeat (first | refine wZ ?_ | intro b)
      exact e_ret1 _ rfl rfl ⟨rfl, rfl⟩ (Ent.refl _)
    rw [decide_eq_false h2]
    repeat (first | refine wZ ?_ | intro b)
    refine at_intro (i + 1) ⟨⟨hlt, fun z hz => ?_⟩, by omega⟩ ⟨rfl, rfl, rfl, rfl, trivial⟩ (Ent.refl _)
    rw [htk] at hz
    rcases List.mem_append.1 hz with hz | hz
    · exact hin2 z hz
    · rw [List.mem_singleton.1 hz]
      exact ⟨by dsimp only; omega, by dsimp only; omega⟩
  · obtain rfl : i = ny := by omega
    rw [List.take_of_length_le (by omega)] at hin2
    repeat (first | refine wZ ?_ | intro b)
    rw [decide_eq_false (by omega : ¬ (i : Int) < (i : Int))]
    repeat (first | refine wZ ?_ | intro b)
    refine l_plain rfl (s_call rfl rfl (copied_c ib ia ni nc hi (by omega)) [1] rfl ?_ (fun _ _ h => h.elim))
    rintro _ _ ⟨a1, c1, rfl, rfl⟩
    repeat (first | refine wZ ?_ | intro b)
    refine l_plain rfl (s_call rfl rfl (copies_c ls (fun x hx => ⟨(hfew x hx).2.2, hls x hx⟩) la nl lc hl hll (by omega)) [0] rfl ?_ (fun _ _ h => h.elim))
    rintro _ _ ⟨a2, c2, ls', W, rfl, hm, hW, rfl⟩
    refine G.ent (L' := slP (.slice a1 ni c1) 5 1 (u8s ib) :: slP (.slice a2 nl c2) 43 4 (ls'.flatMap stC) :: W :: glb :: I :: F) (arr_ent 0 [3, 1, 1, 1] _) ?_
    refine src_sl1 fun hs1 hc1 => ?_
    refine G.ent (L' := slP (.slice a2 nl c2) 43 4 (ls'.flatMap stC) :: slP (.slice a1 ni c1) 5 1 (u8s ib) :: W :: glb :: I :: F) (arr_ent 0 [1] _) ?_
    refine src_sl1 fun hs2 hc2 => ?_
    have hll2 : ls'.length = nl := by have := congrArg List.length hm; simpa [hll] using this
    have hfw2 : ∀ x ∈ ls', x.1.few := fun x hx => by
      have h1 : x.1 ∈ ls'.map (·.1) := List.mem_map.2 ⟨x, hx, rfl⟩
      rw [hm] at h1
      obtain ⟨y, hy1, hy2⟩ := List.mem_map.1 h1
      rw [← hy2]
      exact hfew y hy1
    refine G.ent (L' := glb :: sep [I, slP (.slice a1 ni c1) 5 1 (u8s ib), slP (.slice a2 nl c2) 43 4 (ls'.flatMap stC), W] :: F) (Ent.trans (arr_ent 0 [3, 3, 1, 0, 0] _) (Ent.cons (sep_shut [_, _, _, _] F))) ?_
    have hopF : ∀ F, Ent (sep [I, slP (.slice a1 ni c1) 5 1 (u8s ib), slP (.slice a2 nl c2) 43 4 (ls'.flatMap stC), W] :: F) (I :: slP (.slice a1 ni c1) 5 1 (u8s ib) :: slP (.slice a2 nl c2) 43 4 (ls'.flatMap stC) :: W :: F) := fun F => sep_open [_, _, _, _] F
    generalize sep [I, slP (.slice a1 ni c1) 5 1 (u8s ib), slP (.slice a2 nl c2) 43 4 (ls'.flatMap stC), W] = I2 at hopF
    have hop := hopF []
    refine l_plain rfl (s_call rfl rfl (Files_c hglb ib a1 ni c1 (hs1.ent (hop.trans (Ent.pick1 (i := 1) rfl))) hc1 (by omega) ly ya i yc (hy.ent (hop.trans (Ent.pick1 (i := 0) rfl))) hly (by omega) hin2 ls' a2 nl c2 (hs2.ent (hop.trans (Ent.pick1 (i := 2) rfl))) hll2 (by omega) (fun x hx => ⟨hfw2 x hx, (hW x hx).ent (hop.trans (Ent.pick1 (i := 3) rfl))⟩)) [0, 0] rfl ?_ (fun _ _ h => h.elim))
    rintro _ _ ⟨ta, tc, ov', pa, pc, TL, σ, hF, rfl, rfl⟩
    rw [hm] at hF
    have hF2 : FRes (cfOf (ly.map kindO)) ⟨ov (fun _ => 0) 0 ib, ib.length, [], .idle⟩ (ls.map (·.1)) (TL.map (·.1)) σ := by rw [hkl]; exact hF
    have hfs : ∀ x ∈ ls.map (·.1), x.few := fun x hx => by
      obtain ⟨y, hy1, rfl⟩ := List.mem_map.1 hx
      exact hfew y hy1
    have hfit := files_fit hF2 hfs
    have hlens := fres_len hF2 (by omega) (by omega) hin2 hfs
    rw [List.length_map, List.length_map] at hlens
    generalize rng σ.c 0 σ.s = out at hfit
    generalize σ.l = pts at hfit hlens
    refine G.ent (L' := slP (.slice ta TL.length tc) 46 3 (TL.flatMap tdC) :: tds TL :: tdH ov' out :: slP (.slice pa pts.length pc) 2 1 (ints pts) :: glb :: I2 :: F) (arr_ent 0 [2, 2, 2, 2] _) ?_
    refine src_sl1 fun ht _ => ?_
    refine G.ent (L' := tds TL :: slP (.slice ta TL.length tc) 46 3 (TL.flatMap tdC) :: tdH ov' out :: slP (.slice pa pts.length pc) 2 1 (ints pts) :: glb :: I2 :: F) (arr_ent 0 [1] _) ?_
    refine tds_src fun hts => ?_
    refine G.ent (L' := tdH ov' out :: tds TL :: slP (.slice ta TL.length tc) 46 3 (TL.flatMap tdC) :: slP (.slice pa pts.length pc) 2 1 (ints pts) :: glb :: I2 :: F) (arr_ent 0 [2] _) ?_
    refine td_src fun oa oc hov hol hos => ?_
    subst hov
    refine G.ent (L' := slP (.slice pa pts.length pc) 2 1 (ints pts) :: tdH (.slice oa out.length oc) out :: tds TL :: slP (.slice ta TL.length tc) 46 3 (TL.flatMap tdC) :: glb :: I2 :: F) (arr_ent 0 [3] _) ?_
    refine src_sl1 fun hps _ => ?_
    refine G.ent (L' := glb :: sep [I2, slP (.slice ta TL.length tc) 46 3 (TL.flatMap tdC), tds TL, tdH (.slice oa out.length oc) out, slP (.slice pa pts.length pc) 2 1 (ints pts)] :: F) (Ent.trans (arr_ent 0 [4, 4, 3, 2, 1, 0] _) (Ent.cons (sep_shut [_, _, _, _, _] F))) ?_
    have hop3F : ∀ F, Ent (sep [I2, slP (.slice ta TL.length tc) 46 3 (TL.flatMap tdC), tds TL, tdH (.slice oa out.length oc) out, slP (.slice pa pts.length pc) 2 1 (ints pts)] :: F) (I2 :: slP (.slice ta TL.length tc) 46 3 (TL.flatMap tdC) :: tds TL :: tdH (.slice oa out.length oc) out :: slP (.slice pa pts.length pc) 2 1 (ints pts) :: F) := fun F => sep_open [_, _, _, _, _] F
    generalize sep [I2, slP (.slice ta TL.length tc) 46 3 (TL.flatMap tdC), tds TL, tdH (.slice oa out.length oc) out, slP (.slice pa pts.length pc) 2 1 (ints pts)] = I3 at hop3F
    have hop3 := hop3F []
    have hI : Ent [I3] [I] := (hop3.trans (Ent.pick1 (i := 0) rfl)).trans (hop.trans (Ent.pick1 (i := 0) rfl))
    repeat (first | refine wZ ?_ | intro b)
    refine l_plain rfl (s_call rfl rfl (FilesFit_c okS ib ia ni nc (hi.ent hI) (by omega) ly ya i yc (hy.ent hI) hly (by omega) hin2 (fun _ => okS0 ib ly (by omega) (by omega) hin2) ls la nl lc (hl.ent hI) hll (by omega) (fun x hx => ⟨hfew x hx, (hls x hx).ent hI⟩)
      TL ta TL.length tc (ht.ent (hop3.trans (Ent.pick1 (i := 1) rfl))) rfl (by omega) (fun x hx => ⟨by have := (hts x hx).1; omega, (hts x hx).2.ent (hop3.trans (Ent.pick1 (i := 2) rfl))⟩) out oa oc (hos.ent (hop3.trans (Ent.pick1 (i := 3) rfl))) (by omega) pts pa pc (hps.ent (hop3.trans (Ent.pick1 (i := 4) rfl))) (by omega)) [1] rfl ?_ (fun _ _ h => h.elim))
    rintro _ _ ⟨rfl, rfl⟩
    rw [hfit]
    refine G.ent (L' := glb :: I3 :: F) (arr_ent 0 [1, 0] _) ?_
    repeat (first | refine wZ ?_ | intro b)
    refine l_yes rfl rfl rfl (s_call rfl rfl (awake_c hglb) [0] rfl ?_ (fun _ _ h => h.elim))
    rintro _ _ ⟨rfl, rfl⟩
    repeat (first | refine wZ ?_ | intro b)
    exact e_ret1 _ rfl rfl ⟨rfl, rfl⟩ (Ent.cons (((hop3F F).trans (arr_ent 4 [0] _)).trans ((hopF F).trans (arr_ent 3 [0] _))))
end
end Go.Proofs.YtfebpbflpdppiaaGreatDoor
namespace Go.Proofs.YtfebpbflpdppiaaGreatDoor
open Go Go.Sl Go.ChangeShapes Go.WideShapes Go.ChangeAt Go.RowKit Go.Deep
set_option maxRecDepth 100000
/-- the block of zzEOF, and the heap without it -/
def gH (W : World) : HP := fun h => h = fun k => if k = 1 then ph W k else none
def rH (W : World) : HP := fun h => h = fun k => if k = 1 then none else ph W k
theorem two_sat (W : World) : Sat ⟨W.os, W.tape, W.output⟩ ([gH W, rH W] ++ []) W :=
  ⟨rfl, rfl, rfl, _, _, (fun k o e => by split at e <;> first | exact e | cases e), (fun k o e => by split at e <;> first | exact e | cases e), (fun k => by by_cases h : k = 1 <;> simp [h]), rfl,
    _, (fun _ => none), PH.sub.refl _, (fun _ _ e => by cases e), (fun _ => Or.inr rfl), rfl, trivial⟩
theorem cell_heap {W w : World} {a : Addr} {v : Value} (hc : W.cell? a = some v) (hh : ∀ o, W.heap[a.block]? = some o → w.heap[a.block]? = some o) : w.cell? a = some v := by
  cases hb : W.heap[a.block]? with
  | none => simp [World.cell?, hb] at hc
  | some o => simpa [World.cell?, hb, hh o hb] using hc
theorem rH_rd {W : World} {L : List HP} {a : Addr} {v : Value} (hc : W.cell? a = some v) (hb : a.block ≠ 1) : Rd (rH W :: L) a v := fun m w h => by
  obtain ⟨g, h1, hg⟩ := h.2.2.2.head
  have hg : g = fun k => if k = 1 then none else ph W k := hg
  subst hg
  exact cell_heap hc fun o ho => h1 a.block o (by dsimp only; rw [if_neg hb]; exact ho)
theorem gH_rd {W : World} {v : Value} (hc : W.cell? ⟨1, 0, none⟩ = some v) : Rd [gH W] ⟨1, 0, none⟩ v := fun m w h => by
  obtain ⟨g, h1, hg⟩ := h.2.2.2.head
  have hg : g = fun k => if k = 1 then ph W k else none := hg
  subst hg
  exact cell_heap hc fun o ho => h1 1 o (by dsimp only; rw [if_pos rfl]; exact ho)
theorem two_below {W w : World} (h : Sat ⟨W.os, W.tape, W.output⟩ ([gH W, rH W] ++ []) w) : Below W.heap.size W w := by
  obtain ⟨h1, h2, h3, g, r, hs, hr, _, hg, r', _, hs', _, _, hr', _⟩ := h
  have hg : g = fun k => if k = 1 then ph W k else none := hg
  have hr' : r' = fun k => if k = 1 then none else ph W k := hr'
  subst hg hr'
  have hb : ∀ k, k < W.heap.size → w.heap[k]? = W.heap[k]? := fun k hk => by
    have e : W.heap[k]? = some W.heap[k] := Array.getElem?_eq_getElem hk
    rw [e]
    by_cases h1 : k = 1
    · exact hs k _ (by dsimp only; rw [if_pos h1]; exact e)
    · exact hr k _ (hs' k _ (by dsimp only; rw [if_neg h1]; exact e))
  refine ⟨h1, h2, h3, ?_, hb⟩
  rcases Nat.eq_zero_or_pos W.heap.size with h0 | h0
  · omega
  · have e : W.heap[W.heap.size - 1]? = some (W.heap[W.heap.size - 1]'(by omega)) := Array.getElem?_eq_getElem (by omega)
    have := hb (W.heap.size - 1) (by omega)
    rw [e] at this
    have := (Array.getElem?_eq_some_iff.1 this).1
    omega
/-- what block 1 is -/
def EofB (W : World) : Prop := ∃ (a : Addr) (t : TypeId) (fz : Nat × Nat), W.heap[1]? = some (.cells #[eofV a] t fz)
theorem cell_ok {W : World} (he : EofB W) {a : Addr} {v : Value} (hc : W.cell? a = some v) (hv : ∀ u p, v ≠ .iface u p) : ∃ b o, a = ⟨b, o, none⟩ ∧ b ≠ 1 := by
  obtain ⟨b, o, sp⟩ := a
  have hsp : sp = none := by
    cases sp with
    | none => rfl
    | some x =>
      simp only [World.cell?] at hc
      split at hc
      · simp at hc
      · cases hc
  subst hsp
  refine ⟨b, o, rfl, fun hb => ?_⟩
  subst hb
  obtain ⟨a, t, fz, hh⟩ := he
  simp only [World.cell?, hh] at hc
  cases o with
  | zero =>
    have : eofV a = v := by simpa using hc
    exact hv _ _ (this.symm.trans rfl)
  | succ o => simp at hc
section
variable {L : List HP} {b : Nat}
theorem RdN.app {o : Nat} {l1 l2 : List Value} (h1 : RdN L b o l1) (h2 : RdN L b (o + l1.length) l2) : RdN L b o (l1 ++ l2) := RdN.of fun j v hv => by
  by_cases hj : j < l1.length
  · rw [List.getElem?_append_left hj] at hv
    exact h1.get hv
  · rw [List.getElem?_append_right (by omega)] at hv
    have := h2.get hv
    rwa [show o + l1.length + (j - l1.length) = o + j from by omega] at this
theorem rdn_flat {α : Type} {f : α → List Value} {n : Nat} (hn : ∀ x, (f x).length = n) : ∀ (l : List α) (o : Nat), (∀ i x, l[i]? = some x → RdN L b (o + i * n) (f x)) → RdN L b o (l.flatMap f)
  | [], o, h => RdN.of fun j v hv => by simp at hv
  | y :: l, o, h => by
    rw [List.flatMap_cons]
    refine RdN.app (by have := h 0 y rfl; rwa [Nat.zero_mul, Nat.add_zero] at this) ?_
    rw [hn]
    exact rdn_flat hn l (o + n) fun i x hx => by
      have := h (i + 1) x (by simpa using hx)
      rwa [Nat.succ_mul, show o + (i * n + n) = o + n + i * n from by omega] at this
end
theorem cells5 : Tryz.prog.cellsOf 5 = 1 := by kernel_rfl
theorem cells9 : Tryz.prog.cellsOf 9 = 1 := by kernel_rfl
theorem cells2 : Tryz.prog.cellsOf 2 = 1 := by kernel_rfl
theorem cells22 : Tryz.prog.cellsOf 22 = 1 := by kernel_rfl
theorem cells29 : Tryz.prog.cellsOf 29 = 2 := by kernel_rfl
theorem cells43 : Tryz.prog.cellsOf 43 = 4 := by kernel_rfl
section
variable {H : Type} {enc : TypeId × Value → H} {W : World} {fuel : Nat} {cs : List Value} {x : DataW H × List MemPlace}
/-- bytes -/
theorem open_b (he : EofB W) (h : DataW.trod enc Tryz.prog W 0 (fun _ => true) true fuel 22 cs = some x) : ∃ (a : Option Addr) (k c : Nat) (bs : List UInt8), cs = [.slice a k c] ∧ bs.length = k ∧ Src [rH W] 1 (.slice a k c) k (u8s bs) := by
  rcases open_ints Tryz.underlying22 Tryz.underlying5 cells5 h with ⟨rfl, _⟩ | ⟨ad, len, cap, zs, rfl, _, hl, hm, hz, _, hcell, hw⟩
  · exact ⟨none, 0, 0, [], rfl, rfl, .nil⟩
  · simp only [if_true] at hz
    rcases Nat.eq_zero_or_pos len with h0 | h0
    · subst h0
      exact ⟨some ad, 0, cap, [], rfl, rfl, .emp _ _⟩
    · obtain ⟨b, o, hao, hb1⟩ := cell_ok he (a := ad.add 0) (hcell 0 (by omega)) (fun u p e => by cases e)
      obtain rfl : ad = ⟨b, o, none⟩ := by simpa [Addr.add] using hao
      have hb : ∀ z ∈ zs, 0 ≤ z ∧ z ≤ 255 := fun z hz => bounds_u8 (hw z hz)
      refine ⟨some ⟨b, o, none⟩, len, cap, (zs.take len).map fun z => UInt8.ofNat z.toNat, rfl, by simp; omega, .some b o len cap _ (by simp; omega) (RdN.of fun j v hv => ?_)⟩
      have hj : j < len := by
        have := (List.getElem?_eq_some_iff.1 hv).1
        simp at this; omega
      have hjz : j < zs.length := by omega
      have hc := hcell j hjz
      rw [addr_add] at hc
      have hv' : v = .int .u8 (zs.getD j 0) := by
        simp only [u8s, List.map_map, List.getElem?_map, List.getElem?_take, if_pos hj, List.getElem?_eq_getElem hjz, Option.map_some, Option.some.injEq] at hv
        rw [← hv]
        have := hb _ (List.getElem_mem hjz)
        simp only [Function.comp, List.getD, List.getElem?_eq_getElem hjz, Option.getD_some, Value.int.injEq, true_and]
        have h2 : (UInt8.ofNat (zs[j]).toNat).toNat = (zs[j]).toNat := by simp; omega
        rw [h2]; omega
      rw [hv']
      exact rH_rd hc hb1
/-- layers -/
theorem open_l (he : EofB W) (h : DataW.trod enc Tryz.prog W 0 (fun _ => true) true fuel 23 cs = some x) : ∃ (a : Option Addr) (k c : Nat) (ly : List (ByteArray × Int)), cs = [.slice a k c] ∧ ly.length = k ∧ Src [rH W] 2 (.slice a k c) k (ly.flatMap lyC) := by
  rcases open_slice_pairs Tryz.underlying23 Tryz.underlying29 cells29 rfl rfl cells9 cells2 h with ⟨rfl, _⟩ | ⟨ad, len, cap, m, n, V0, V1, D0, D1, P0, P1, rfl, _, hl, hm, hmm, _, hx⟩
  · exact ⟨none, 0, 0, [], rfl, rfl, .nil⟩
  · simp only [if_true] at hmm
    have hel : ∀ i, i < len → ∃ y : ByteArray × Int, W.cell? (ad.add (i * 2)) = some (.string y.1) ∧ W.cell? (ad.add (i * 2 + 1)) = some (.int .i64 y.2) := fun i hi => by
      obtain ⟨h1, h2, h3, h4⟩ := hx i (by omega)
      obtain ⟨s, e1, _⟩ := DataW.trod_string Tryz.underlying9 h3
      obtain ⟨z, e2, _⟩ := DataW.trod_int Tryz.underlying2 h4
      simp only [List.cons.injEq, and_true] at e1 e2
      exact ⟨(s, z), by rw [h1, e1], by rw [h2, e2]⟩
    have : Inhabited (ByteArray × Int) := ⟨(ByteArray.empty, 0)⟩
    obtain ⟨f, hf⟩ := choose_lt hel
    rcases Nat.eq_zero_or_pos len with h0 | h0
    · subst h0
      exact ⟨some ad, 0, cap, [], rfl, rfl, .emp _ _⟩
    · obtain ⟨b, o, hao, hb1⟩ := cell_ok he (hf 0 h0).1 (fun u p e => by cases e)
      obtain rfl : ad = ⟨b, o, none⟩ := by simpa [Addr.add] using hao
      refine ⟨some ⟨b, o, none⟩, len, cap, (List.range len).map f, rfl, by simp, .some b o len cap _ (by rw [flat_len lyC 2 (fun _ => rfl)]; simp) (rdn_flat (n := 2) (fun _ => rfl) _ _ fun i y hy => ?_)⟩
      rw [List.getElem?_map] at hy
      obtain ⟨i', hi', rfl⟩ := Option.map_eq_some_iff.1 hy
      have hil : i < len := by have := (List.getElem?_eq_some_iff.1 hi').1; simpa using this
      obtain rfl : i = i' := by simpa [List.getElem?_range hil] using hi'
      obtain ⟨g1, g2⟩ := hf i hil
      rw [addr_add] at g1 g2
      refine RdN.of fun j v hv => ?_
      match j, hv with
      | 0, hv => exact Option.some.inj hv ▸ rH_rd g1 hb1
      | 1, hv => exact Option.some.inj hv ▸ (by have := rH_rd (L := []) g2 hb1; rwa [← Nat.add_assoc] at this)
      | j + 2, hv => simp [lyC] at hv
/-- calls -/
theorem open_s (he : EofB W) (h : DataW.trod enc Tryz.prog W 0 (fun _ => true) true fuel 24 cs = some x) : ∃ (a : Option Addr) (k c : Nat) (ls : List (Stp × Value)), cs = [.slice a k c] ∧ ls.length = k ∧ Src [rH W] 4 (.slice a k c) k (ls.flatMap stC) ∧ ∀ x ∈ ls, Src [rH W] 1 x.2 x.1.bs.length (u8s x.1.bs) := by
  rcases open_slice Tryz.underlying24 h with ⟨rfl, _⟩ | ⟨ad, len, cap, m, n, D, Pl, rfl, _, hl, hm, hmm, _, hx⟩
  · exact ⟨none, 0, 0, [], rfl, rfl, .nil, fun x hx => by cases hx⟩
  · simp only [if_true] at hmm
    have hel : ∀ i, i < len → ∃ y : Stp × Value, (∀ j v, (stC y)[j]? = some v → W.cell? (ad.add (i * 4 + j)) = some v) ∧ Src [rH W] 1 y.2 y.1.bs.length (u8s y.1.bs) := fun i hi => by
      obtain ⟨cs', h1, h2⟩ := hx i (by omega)
      rw [cells43] at h1
      obtain ⟨_, hlen, hcell⟩ := World.cells?_some h1
      obtain ⟨xs, k, _, _, _, hxl, hf⟩ := DataW.trod_struct Tryz.underlying43 h2
      match xs, hxl, cs', hlen with
      | [y0, y1, y2, y3], _, [v0, v1, v2, v3], _ =>
        have g0 := hf 0 _ rfl
        have g1 := hf 1 _ rfl
        have g2 := hf 2 _ rfl
        have g3 := hf 3 _ rfl
        simp [cells9, cells2, cells22] at g0 g1 g2 g3
        obtain ⟨s, e0, _⟩ := DataW.trod_string Tryz.underlying9 g0
        obtain ⟨z1, e1, _⟩ := DataW.trod_int Tryz.underlying2 g1
        obtain ⟨z2, e2, _⟩ := DataW.trod_int Tryz.underlying2 g2
        obtain ⟨a, kk, c, bs, e3, hbl, hs⟩ := open_b he g3
        simp only [List.cons.injEq, and_true] at e0 e1 e2 e3
        subst e0 e1 e2 e3
        refine ⟨(⟨s, z1, z2, bs⟩, .slice a kk c), fun j v hv => ?_, by dsimp only; rw [hbl]; exact hs⟩
        have hj : j < 4 := (List.getElem?_eq_some_iff.1 hv).1
        have := hcell j hj
        rw [add_add] at this
        rw [this]
        exact hv
    have : Inhabited (Stp × Value) := ⟨(⟨ByteArray.empty, 0, 0, []⟩, .slice none 0 0)⟩
    obtain ⟨f, hf⟩ := choose_lt hel
    have hmem : ∀ x ∈ (List.range len).map f, Src [rH W] 1 x.2 x.1.bs.length (u8s x.1.bs) := fun x hx => by
      obtain ⟨i, hi, rfl⟩ := List.mem_map.1 hx
      exact (hf i (List.mem_range.1 hi)).2
    rcases Nat.eq_zero_or_pos len with h0 | h0
    · subst h0
      exact ⟨some ad, 0, cap, [], rfl, rfl, .emp _ _, fun x hx => by cases hx⟩
    · obtain ⟨b, o, hao, hb1⟩ := cell_ok he ((hf 0 h0).1 0 _ rfl) (fun u p e => by cases e)
      obtain rfl : ad = ⟨b, o, none⟩ := by simpa [Addr.add] using hao
      refine ⟨some ⟨b, o, none⟩, len, cap, (List.range len).map f, rfl, by simp, .some b o len cap _ (by rw [flat_len stC 4 (fun _ => rfl)]; simp) (rdn_flat (n := 4) (fun _ => rfl) _ _ fun i y hy => ?_), hmem⟩
      rw [List.getElem?_map] at hy
      obtain ⟨i', hi', rfl⟩ := Option.map_eq_some_iff.1 hy
      have hil : i < len := by have := (List.getElem?_eq_some_iff.1 hi').1; simpa using this
      obtain rfl : i = i' := by simpa [List.getElem?_range hil] using hi'
      refine RdN.of fun j v hv => ?_
      have := (hf i hil).1 j v hv
      rw [addr_add] at this
      have := rH_rd (L := []) this hb1
      rwa [← Nat.add_assoc] at this
end
end Go.Proofs.YtfebpbflpdppiaaGreatDoor
namespace Go.Proofs.YtfebpbflpdppiaaGreatDoor
open Go Go.Sl Go.ChangeShapes Go.WideShapes Go.ChangeAt Go.RowKit Go.Deep
set_option maxRecDepth 100000
/-- the post-condition of a law: true, and what was there stands -/
theorem post_keep {H : Type} {enc : TypeId × Value → H} {P : Program} {f : Func} {s : ChangeSpec} {W W' : World} {args : Array Value} {v : Value} {ds gs : List (DataW H)} {before pa pv : List MemPlace}
    (hW : DataW.Whole enc P f.params.toList s.vars false W args.toList ds gs before)
    (hres : ∀ (b : Nat) (sp : Nat → Bool) (hd : Bool), DataW.TrodAll enc P W' b sp hd f.resultTypes.toList (v.resultList f.resultTypes.size) (s.fn H (ds ++ gs)).results [])
    (hargs : DataW.TrodAll enc P W' 0 (fun b => decide (b < W.heap.size)) true f.params.toList args.toList (s.fn H (ds ++ gs)).args pa)
    (hvars : DataW.TrodVars enc P W' (fun b => decide (b < W.heap.size)) s.vars (s.fn H (ds ++ gs)).vars pv)
    (hk : Below W.heap.size W W') : s.post enc P f false true false false W args v W' :=
  ⟨ds, gs, before, [], pa, pv, hW, hres _ _ _, hargs, hvars, hk.frame _, fun h => by cases h⟩
theorem laidOut : laidOutB Tryz.prog = true := by kernel_rfl
theorem rd22 : Tryz.prog.readableRec 22 = true := by kernel_rfl
theorem rd23 : Tryz.prog.readableRec 23 = true := by kernel_rfl
theorem rd24 : Tryz.prog.readableRec 24 = true := by kernel_rfl
theorem row22 : 22 < Tryz.prog.types.size := of_decide_eq_true (by kernel_rfl)
theorem row23 : 23 < Tryz.prog.types.size := of_decide_eq_true (by kernel_rfl)
theorem row24 : 24 < Tryz.prog.types.size := of_decide_eq_true (by kernel_rfl)
theorem row154 (u : TypeId) (h : Tryz.prog.typeName? 3 u = some "*errors.errorString") : u = 154 :=
  typeName_ptr_named (nm := "errors.errorString") (by rw [show "*" ++ "errors.errorString" = "*errors.errorString" from by decide]; kernel_rfl) (by kernel_rfl) (by decide) u (by rw [show "*" ++ "errors.errorString" = "*errors.errorString" from by decide]; exact h)
theorem cells216 : Tryz.prog.cellsOf 216 = 1 := by kernel_rfl
theorem gEof : Tryz.prog.globalNamed "pub-stonevault/pub/lldb.zzEOF" = some 1 := by kernel_rfl
/-- what the row lists of zzEOF, as a cell -/
theorem eofB_of {W : World} (h : laidMetH Tryz.prog Rows.fnFilesRow.laid W) : EofB W := by
  have hL : laidMet Tryz.prog Rows.fnFilesRow.laid W := h
  obtain ⟨a, s, hv, _⟩ := laid_sentinel (P := Tryz.prog) hL gEof (by kernel_rfl) Tryz.underlying50 row154 Tryz.underlying154 Tryz.underlying216 rfl rfl Tryz.underlying9 cells216 cells9
  simp only [World.var?, gEof, Option.bind_some] at hv
  split at hv
  · rename_i cs t fz hh
    have e := Option.some.inj hv
    subst e
    exact ⟨a, t, fz, hh⟩
  · cases hv
theorem eof_rd {W : World} (h : EofB W) : ∃ ea, Rd [gH W] ⟨1, 0, none⟩ (eofV ea) := by
  obtain ⟨a, t, fz, hh⟩ := h
  exact ⟨a, gH_rd (by simp [World.cell?, hh])⟩
/-- a slice that came in -/
theorem arg_sl {t e : TypeId} {W : World} {base : Nat} {v : Value} (ht : Tryz.prog.underlying t = some (.slice e)) (h : Value.okWide Tryz.prog W .any base t v) : ∃ a k c, v = .slice a k c := okWide_slice ht h
theorem contractF (H : Type) (enc : TypeId × Value → H) (W : World) (base : Nat) (args : Array Value) (ds gs : List (DataW H)) (before : List MemPlace)
    (hval : ∀ (j : Nat) t v, Tryz.f3.params[j]? = some t → args[j]? = some v → Value.okWide Tryz.prog W .any base t v)
    (hW : DataW.Whole enc Tryz.prog Tryz.f3.params.toList Rows.fnFilesSpec.vars false W args.toList ds gs before) (he : EofB W) :
    Calls Tryz.prog 3 args W fun e W' => ∃ v, e = .returned v ∧ Rows.fnFilesSpec.post enc Tryz.prog Tryz.f3 false true false false W args v W' := by
  have hW' := hW
  have hlt := hW.lt
  obtain ⟨p, q, hA0, hV, rfl, hfz, hnd⟩ := hW
  have hA : DataW.TrodAll enc Tryz.prog W 0 (fun _ => true) true Tryz.f3.params.toList args.toList ds p := hA0
  rw [Tryz.params3] at hA hval
  obtain ⟨v0, v1, v2, d0, d1, d2, p0, p1, p2, rfl, rfl, rfl, h0, h1, h2⟩ := trodAll_three hA
  obtain ⟨rfl, rfl⟩ := trodVars_none hV
  obtain ⟨a0, k0, c0, rfl⟩ := arg_sl Tryz.underlying22 (hval 0 22 v0 rfl rfl)
  obtain ⟨a1, k1, c1, rfl⟩ := arg_sl Tryz.underlying23 (hval 1 23 v1 rfl rfl)
  obtain ⟨a2, k2, c2, rfl⟩ := arg_sl Tryz.underlying24 (hval 2 24 v2 rfl rfl)
  obtain ⟨f0, g0⟩ := h0
  obtain ⟨f1, g1⟩ := h1
  obtain ⟨f2, g2⟩ := h2
  obtain ⟨a, k, c, bs, e0, hb, hs0⟩ := open_b he g0
  simp only [Value.cells, List.cons.injEq, Value.slice.injEq, and_true] at e0
  obtain ⟨rfl, rfl, rfl⟩ := e0
  obtain ⟨a, k, c, ly, e1, hl, hs1⟩ := open_l he g1
  simp only [Value.cells, List.cons.injEq, Value.slice.injEq, and_true] at e1
  obtain ⟨rfl, rfl, rfl⟩ := e1
  obtain ⟨a, k, c, ls, e2, hls, hs2, hs3⟩ := open_s he g2
  simp only [Value.cells, List.cons.injEq, Value.slice.injEq, and_true] at e2
  obtain ⟨rfl, rfl, rfl⟩ := e2
  obtain ⟨ea, hrd⟩ := eof_rd he
  refine (FnFiles_c hrd bs a0 k0 c0 hs0 ly a1 k1 c1 hs1 hl ls a2 k2 c2 hs2 hls hs3 _ [] W (two_sat W)).mono fun e W' he => ?_
  cases e with
  | returned v =>
    obtain ⟨B, ⟨rfl, rfl⟩, hB⟩ := he
    have hbel := two_below hB
    have hlt' : ∀ x ∈ p0 ++ (p1 ++ p2), x.block < W.heap.size := fun x hx => by simpa using hlt x (by simpa using hx)
    exact ⟨_, rfl, post_keep (pa := p0 ++ (p1 ++ p2)) (pv := []) hW' (fun _ _ _ => trodAll_mk1 (shut_bool Tryz.underlying4 _))
      (trodAll_mk3 (Below.trod laidOut rd22 row22 ⟨f0, g0⟩ hbel fun x hx => hlt' x (by simp [hx])) (Below.trod laidOut rd23 row23 ⟨f1, g1⟩ hbel fun x hx => hlt' x (by simp [hx])) (Below.trod laidOut rd24 row24 ⟨f2, g2⟩ hbel fun x hx => hlt' x (by simp [hx]))) rfl hbel⟩
  | panicked c => obtain ⟨B, hR, _⟩ := he; exact hR.elim
  | outgrown => exact he.elim
theorem own_ : ownKnob Tryz.prog.godebug = none := by kernel_rfl
noncomputable def low : Nat := (World.holding Tryz.prog default ⟨#[], #[], []⟩).heap.size
abbrev eofS : ByteArray := { data := #[69, 79, 70] }
abbrev faultS : ByteArray := { data := #[116, 104, 101, 32, 102, 105, 108, 101, 32, 102, 97, 105, 108, 101, 100] }
/-- a world for the witness: the two variables as the program's text lays them -/
noncomputable def laidWorld (os : Os) : World :=
  let w0 := World.holding Tryz.prog os ⟨#[.cells #[.string eofS] 216, .cells #[.string faultS] 216], #[], []⟩
  { w0 with heap := (w0.heap.modify 1 fun
      | .cells _ t frozen => .cells #[.iface 154 (.pointer (some ⟨low, 0, none⟩))] t frozen
      | o => o).modify 0 fun
      | .cells _ t frozen => .cells #[.iface 154 (.pointer (some ⟨low + 1, 0, none⟩))] t frozen
      | o => o }
theorem laid_met (os : Os) (args : Array Value) : laidMet Tryz.prog Rows.fnFilesRow.laid ((laidWorld os).forCall (fun _ _ => 0) ⟨#[], args, []⟩).memory :=
  laidMet_of_run (ps := [.cell 1 0, .cell low 0, .cell 0 0, .cell (low + 1) 0]) 8 (by kernel_rfl) (by kernel_rfl) (by kernel_rfl)
abbrev noneF : Array Value := #[.slice none 0 0, .slice none 0 0, .slice none 0 0]
theorem readsF (os : Os) {H : Type} (enc : TypeId × Value → H) : ∃ places, DataW.whole enc Tryz.prog ((laidWorld os).forCall (fun _ _ => 0) ⟨#[], noneF, []⟩).memory Tryz.f3.params.toList Rows.fnFilesSpec.vars false noneF.toList 8 = some ([.nil, .nil, .nil], [], places) :=
  ⟨[], by kernel_rfl⟩
theorem liftedF (os : Os) (started : os.Started) (H : Type) (enc : TypeId × Value → H) (F : Stop.Interp) :
    ReturnsInHanded {} Tryz.checked os 3 .any ((OpenSpec.ofChange Rows.fnFilesSpec).preRow enc Tryz.prog Tryz.f3 Rows.fnFilesRow.domain false Rows.fnFilesRow.laid) (((OpenSpec.ofChange Rows.fnFilesSpec).at F).post enc Tryz.prog Tryz.f3 false true false false) := by
  obtain ⟨places, hx⟩ := readsF os enc
  refine returnsInHanded_of_row (C := Tryz.checked) (s := OpenSpec.ofChange Rows.fnFilesSpec) own_ started (by kernel_rfl) Tryz.func3
    (witness_row_at (enc := enc) (C := Tryz.checked) false (laidWorld os) noneF rfl (by kernel_rfl) (by kernel_rfl) (by kernel_rfl)
      (OpenSpec.preRow_of_cond 8 hx (by kernel_rfl) (fun k hk => by cases hk) (by kernel_rfl) (laid_met os _))) ?_
  intro W base args ds gs before hval hW _ _ _ hL _ _
  exact contractF H enc W base args ds gs before hval hW (eofB_of hL)
theorem saidF_ : Rows.FnFilesSaid :=
  OpenClaim.holds_of_cond 3 Tryz.f3 rfl rfl rfl rfl rfl rfl rfl ⟨rfl, rfl, rfl, rfl, rfl⟩ rfl rfl rfl rfl rfl (by kernel_rfl) Tryz.func3 (by kernel_rfl)
    (of_decide_eq_true (by kernel_rfl)) (by unfold Func.isWrapper; first | (rw [if_pos (by decide +kernel)]; kernel_rfl) | (rw [if_neg (by decide +kernel)]; exact ⟨rfl, rfl⟩))
    (fun os started H enc _ F => by rw [OpenClaim.pre_eq_preRow]; exact liftedF os started H enc F)
theorem plainF (f : FuncId) (fn : Func) (hf : Tryz.pinned.checked.prog.funcNamed "pub-stonevault/laws.FnFiles" = some f) (hfn : Tryz.pinned.checked.prog.funcs[f]? = some fn) :
    true = Tryz.pinned.checked.prog.looks [] ∧ ∀ (j : Nat) t, fn.params[j]? = some t → Tryz.pinned.checked.prog.wantsStandIn t = false := by
  obtain rfl : f = 3 := Option.some.inj ((show Tryz.prog.funcNamed "pub-stonevault/laws.FnFiles" = some 3 by kernel_rfl).symm.trans hf) |>.symm
  obtain rfl : fn = Tryz.f3 := (Option.some.inj (Tryz.func3.symm.trans hfn)).symm
  refine ⟨by kernel_rfl, fun j t ht => ?_⟩
  rw [Tryz.params3] at ht
  obtain rfl | rfl | rfl : t = 22 ∨ t = 23 ∨ t = 24 := by simpa using Array.mem_of_getElem? ht
  · exact (show Tryz.prog.wantsStandIn 22 = false by kernel_rfl)
  · exact (show Tryz.prog.wantsStandIn 23 = false by kernel_rfl)
  · exact (show Tryz.prog.wantsStandIn 24 = false by kernel_rfl)
/-- THE CARD: FnFiles -/
theorem cardF : Rows.FnFilesCardSaid :=
  Claim7.holds_tied_plain_at .later [] _ _ _ _ saidF_ (fun _ h => by cases h) (by kernel_rfl) (fun _ h => by cases h) fnFiles_row_tie rfl ⟨rfl, rfl⟩ (by kernel_rfl) rfl plainF (by kernel_rfl)
end Go.Proofs.YtfebpbflpdppiaaGreatDoor
#print axioms Go.Proofs.YtfebpbflpdppiaaGreatDoor.cardF
