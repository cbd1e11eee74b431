/- Files · The reference's slices: parts of what is read; known · The reference's lists of bytes: written, cut. -/
import Derived.Test.YtfebpbflpdppiaaGreatDoorL13
namespace Go.Proofs.YtfebpbflpdppiaaGreatDoor
open Go Go.Sl
set_option maxRecDepth 100000
abbrev sInner : ByteArray := ⟨#[105, 110, 110, 101, 114]⟩
def lyC (y : ByteArray × Int) : List Value := [.string y.1, .int .i64 y.2]
def stC (x : Stp × Value) : List Value := [.string x.1.d, .int .i64 x.1.off, .int .i64 x.1.n, x.2]
def kindO (y : ByteArray × Int) : Option Nat := if y.1 = sInner then some y.2.toNat else none
theorem cfAdd_le (g : Cf) (x : Option Nat) : (cfAdd g x).T + (cfAdd g x).u ≤ g.T + g.u + (match x with | some o => o | none => 0) := by
  obtain ⟨has, ro, T, u⟩ := g
  cases x <;> cases has <;> simp [cfAdd] <;> omega
theorem ptsH_nil {pb : Nat} {F : List HP} : Ent (blk pb (cl [.slice none 0 0] 31) :: F) (ptsH pb [] :: F) := by
  refine Ent.trans (Ent.cons (slP_nil (e := 2) (size := 1))) ?_
  refine (sep_shut [_, _] F).trans ?_
  exact ex_shut (fun x : Option Addr × Nat => sep [blk pb (cl [.slice x.1 ([] : List Int).length x.2] 31), slP (.slice x.1 ([] : List Int).length x.2) 2 1 (ints [])]) (none, 0) F
theorem pts_open {pb n : Nat} {ds : List Deferred} {σ : Env} {m : Amb} {L : List HP} {l : List Int} {Φ : Act → World → Prop} (h : ∀ a c, G n ds σ m (blk pb (cl [.slice a l.length c] 31) :: slP (.slice a l.length c) 2 1 (ints l) :: L) Φ) : G n ds σ m (ptsH pb l :: L) Φ :=
  G.exE fun x => G.ent (sep_open [_, _] L) (h x.1 x.2)
theorem flat_part {α : Type} (f : α → List Value) (n : Nat) (hn : ∀ x, (f x).length = n) : ∀ (l : List α) (i : Nat) (x : α), l[i]? = some x → ((l.flatMap f).drop (i * n)).take n = f x
  | [], i, x, h => by simp at h
  | y :: l, 0, x, h => by
    simp at h
    subst h
    simp only [List.flatMap_cons, Nat.zero_mul, List.drop_zero]
    rw [List.take_append_of_le_length (by rw [hn]; exact Nat.le_refl _), List.take_of_length_le (by rw [hn]; exact Nat.le_refl _)]
  | y :: l, i + 1, x, h => by
    simp only [List.getElem?_cons_succ] at h
    simp only [List.flatMap_cons]
    rw [show (i + 1) * n = (f y).length + i * n from by rw [hn, Nat.succ_mul, Nat.add_comm], List.drop_append]
    have e1 : List.drop ((f y).length + i * n) (f y) = [] := List.drop_of_length_le (by omega)
    rw [e1, List.nil_append, Nat.add_sub_cancel_left]
    exact flat_part f n hn l i x h
theorem flat_len {α : Type} (f : α → List Value) (n : Nat) (hn : ∀ x, (f x).length = n) : ∀ (l : List α), (l.flatMap f).length = l.length * n
  | [] => by simp
  | y :: l => by simp only [List.flatMap_cons, List.length_append, List.length_cons, flat_len f n hn l, hn]; rw [Nat.succ_mul, Nat.add_comm]
theorem rd_part {α : Type} {f : α → List Value} {n : Nat} (hn : ∀ x, (f x).length = n) {L : List HP} {b o i : Nat} {l : List α} {x : α} (h : RdN L b o (l.flatMap f)) (hx : l[i]? = some x) : RdN L b (o + i * n) (f x) := by
  rw [← flat_part f n hn l i x hx]
  exact RdN.take (RdN.skip h (i * n)) n
theorem src_isl {L : List HP} {size k : Nat} {v : Value} {l : List Value} (h : Src L size v k l) : ∃ a n c, v = .slice a n c := by
  cases h with
  | nil => exact ⟨_, _, _, rfl⟩
  | emp _ _ => exact ⟨_, _, _, rfl⟩
  | some b o _ _ _ hl hr => exact ⟨_, _, _, rfl⟩
theorem flat_add (TL : List (Tld × Value)) (x : Tld × Value) : (TL ++ [x]).flatMap tdC = TL.flatMap tdC ++ tdC x := by simp
theorem tdH_isl {sl : Value} {dat : List UInt8} {L : List HP} {H : PH} (h : SatL (tdH sl dat :: L) H) : ∃ a n c, sl = .slice a n c := by
  obtain ⟨a, _, hA⟩ := h.head
  rcases hA with ⟨h, _⟩ | ⟨_, _, _, _, h, _⟩
  · exact ⟨_, _, _, h⟩
  · exact ⟨_, _, _, h⟩
theorem src_addr {L : List HP} {size k c : Nat} {a : Option Addr} {l : List Value} (h : Src L size (.slice a k c) k l) (hk : 0 < k) : ∃ b o, a = some ⟨b, o, none⟩ ∧ RdN L b o l := by
  cases h with
  | nil => omega
  | emp _ _ => omega
  | some b o _ _ _ hl hr => exact ⟨b, o, rfl, hr⟩
theorem Ent.pick1 {A : HP} {L R : List HP} {i : Nat} (h : takeAt i L = some (A, R)) : Ent L [A] := (takeAt_ent h).trans (Ent.left [A] R)
section
variable {P : Program} {n : Nat} {ds : List Deferred} {σ : Env} {m : Amb} {L : List HP} {Q : Exit → Act → World → Prop} {ops : Array Oper} {LS : List HP} {listed : Array Bool} {fuel : Nat}
theorem h_two {o p : Oper} (i j : Nat) (hr : Region.ready .any ops listed = [i, j]) (hi : ops[i]? = some o) (hg : o.guard = none) (hj : ops[j]? = some p) (hg' : p.guard = none) (h : G n ds σ m L (St P o (fun a' w' => Sat m LS w' ∧ wpAnyH P .any ops Q (Sat m LS) fuel (listed.setIfInBounds i true) a' w') Q))
    (h' : G n ds σ m L (St P p (fun a' w' => Sat m LS w' ∧ wpAnyH P .any ops Q (Sat m LS) fuel (listed.setIfInBounds j true) a' w') Q)) : G n ds σ m L (wpAnyH P .any ops Q (Sat m LS) (fuel + 1) listed) := fun a w h1 h2 h3 h4 =>
  wpAnyH_all hr (by simp) fun k hk => by
    simp at hk
    rcases hk with rfl | rfl
    · exact a_op hi hg h a w h1 h2 h3 h4
    · exact a_op hj hg' h' a w h1 h2 h3 h4
end
/-- what Files has done: all calls, or all up to one that panicked -/
def FRes (g : Cf) (σ0 : MS) (steps : List Stp) (TT : List Tld) (σ : MS) : Prop :=
  Run g σ0 steps TT σ ∨ ∃ pre x post tl, steps = pre ++ x :: post ∧ Run g σ0 pre tl σ ∧ σ.t = .brk ∧ TT = tl ++ [⟨7, 0, []⟩]
attribute [local irreducible] wpList Code.wp Exit.then Exit.inBlock bodyPost RunS RunV G St Ct Sat Ent At Rd GQ QL wpAny wpOp wpQuiet slP Sl.ex sep
attribute [local irreducible] zf memf pgl rng ov cutC zc mapO rdd bme bf bx wC wS wD ptsH tdH tds
section
variable {glb I : HP} {ea : Addr}
set_option maxHeartbeats 4000000 in
theorem Files_c (hglb : Rd [glb] ⟨1, 0, none⟩ (eofV ea)) (ib : List UInt8) (ia : Option Addr) (ni nc : Nat) (hi : Src [I] 1 (.slice ia ni nc) ni (u8s ib)) (hic : ni ≤ nc) (hni : ni ≤ 65536)
    (ly : List (ByteArray × Int)) (ya : Option Addr) (ny yc : Nat) (hy : Src [I] 2 (.slice ya ny yc) ny (ly.flatMap lyC)) (hly : ly.length = ny) (hy6 : ny ≤ 6) (hyo : ∀ y ∈ ly, 0 ≤ y.2 ∧ y.2 ≤ 65536)
    (ls : List (Stp × Value)) (la : Option Addr) (nl lc : Nat) (hl : Src [I] 4 (.slice la nl lc) nl (ls.flatMap stC)) (hll : ls.length = nl) (hl60 : nl ≤ 200) (hls : ∀ x ∈ ls, x.1.few ∧ Src [I] 1 x.2 x.1.bs.length (u8s x.1.bs)) :
    Ct Tryz.prog 9 #[.slice ia ni nc, .slice ya ny yc, .slice la nl lc] [glb, I] (fun x B => ∃ (ta : Option Addr) (tc : Nat) (ov' : Value) (pa : Option Addr) (pc : Nat) (TL : List (Tld × Value)) (σ : MS), FRes (cfOf (ly.map kindO)) ⟨ov (fun _ => 0) 0 ib, ni, [], .idle⟩ (ls.map (·.1)) (TL.map (·.1)) σ ∧ x = .tuple #[.slice ta TL.length tc, ov', .slice pa σ.l.length pc] ∧
      B = [glb, I, slP (.slice ta TL.length tc) 46 3 (TL.flatMap tdC), tds TL, tdH ov' (rng σ.c 0 σ.s), slP (.slice pa σ.l.length pc) 2 1 (ints σ.l)]) nev := by
  have hkl : ib.length = ni := by have := hi.len; simpa using this
  refine Ct.ofD Tryz.func9 rfl Tryz.ntmps9 rfl fun m F => ?_
  repeat (first | refine wZ ?_ | intro b)
  rename_i tb ob
  revert b; intro pb
  refine G.ent (L' := blk pb (cl [.slice none 0 0] 31) :: blk ob (cl [.slice none 0 0] 22) :: blk tb (cl [.slice none 0 0] 30) :: glb :: I :: F) (Ent.refl _) ?_
  refine l_plain rfl (s_call rfl rfl NewMemFiler_c [] rfl ?_ (fun _ _ h => h.elim))
  rintro _ _ ⟨mb, rfl, rfl⟩
  repeat (first | refine wZ ?_ | intro b)
  revert b; intro mc0
  refine G.ent (L' := memf mb (fun _ => 0) 0 :: blk mc0 (cl [.pointer (some ⟨mb, 0, none⟩)] 47) :: blk pb (cl [.slice none 0 0] 31) :: blk ob (cl [.slice none 0 0] 22) :: blk tb (cl [.slice none 0 0] 30) :: glb :: I :: F) (arr_ent 0 [1, 0] _) ?_
  refine c_mid (α := Unit) (fun _ => [(9, .pointer (some ⟨mc0, 0, none⟩)), (8, .pointer (some ⟨pb, 0, none⟩)), (7, .pointer (some ⟨ob, 0, none⟩)), (6, .pointer (some ⟨tb, 0, none⟩)), (1, .slice ya ny yc), (2, .slice la nl lc)])
    (fun _ => memf mb (ov (fun _ => 0) 0 ib) ni :: blk mc0 (cl [.pointer (some ⟨mb, 0, none⟩)] 47) :: blk pb (cl [.slice none 0 0] 31) :: blk ob (cl [.slice none 0 0] 22) :: blk tb (cl [.slice none 0 0] 30) :: glb :: I :: F) (fun _ => True) ?_ ?_
  · refine c_cond rfl (fun h => ?_) (fun h => ?_)
    · have h := of_decide_eq_true h
      repeat (first | refine wZ ?_ | intro b)
      refine l_plain rfl (s_call rfl rfl (MWriteAt_c ib ia ni nc 0 hi hic (by omega) (by omega)) [0, 5] rfl ?_ (fun _ _ h => h.elim))
      rintro _ _ ⟨rfl, rfl⟩
      rw [if_neg (by omega), show max 0 (0 + ni) = ni from by omega]
      repeat (first | refine wZ ?_ | intro b)
      exact at_intro () trivial ⟨rfl, rfl, rfl, rfl, rfl, rfl, trivial⟩ (arr_ent 0 [0, 1, 1, 1, 1, 1, 0] _)
    · have h := of_decide_eq_false h
      have h0 : ni = 0 := by omega
      have h1 : ib = [] := List.length_eq_zero_iff.1 (by omega)
      subst h0 h1
      rw [ov_nil]
      repeat (first | refine wZ ?_ | intro b)
      exact at_intro () trivial ⟨rfl, rfl, rfl, rfl, rfl, rfl, trivial⟩ (Ent.refl _)
  rintro _ _
  generalize hc0 : ov (fun _ => 0) 0 ib = c0
  repeat (first | refine wZ ?_ | intro b)
  refine l_plain rfl ?_
  apply s_val rfl rfl
  · exact RunS.v (r_makeFn rfl)
  refine l_plain rfl (s_defer rfl rfl ?_)
  repeat (first | refine wZ ?_ | intro b)
  have hst0 : Stk glb ea mb pb c0 ni cf0 (.iface 47 (.pointer (some ⟨mb, 0, none⟩))) (memf mb c0 ni) := stk_nil hglb
  refine c_loop (α := Nat × Cf × Value × HP) (fun y => [(30, .int .i64 (y.1 : Nat)), (29, .int .i64 (ny : Nat)), (28, .slice ya ny yc), (10, y.2.2.1), (9, .pointer (some ⟨mc0, 0, none⟩)), (8, .pointer (some ⟨pb, 0, none⟩)), (7, .pointer (some ⟨ob, 0, none⟩)), (6, .pointer (some ⟨tb, 0, none⟩)), (2, .slice la nl lc)])
    (fun y => y.2.2.2 :: blk mc0 (cl [.pointer (some ⟨mb, 0, none⟩)] 47) :: blk pb (cl [.slice none 0 0] 31) :: blk ob (cl [.slice none 0 0] 22) :: blk tb (cl [.slice none 0 0] 30) :: glb :: I :: F)
    (fun y => y.1 ≤ ny ∧ y.2.1 = cfOf ((ly.take y.1).map kindO) ∧ y.2.1.T + y.2.1.u ≤ y.1 * 65536 ∧ Stk glb ea mb pb c0 ni y.2.1 y.2.2.1 y.2.2.2) (fun y => ny - y.1) (0, cf0, .iface 47 (.pointer (some ⟨mb, 0, none⟩)), memf mb c0 ni)
    ⟨Nat.zero_le _, rfl, (by show 0 + 0 ≤ 0 * 65536; omega), hst0⟩ (by exact ⟨rfl, rfl, rfl, rfl, rfl, rfl, rfl, rfl, rfl, trivial⟩) (Ent.refl _) ?_
  clear hst0
  rintro ⟨i, g, v, S⟩ ⟨hin, hg, hgT, hstk⟩
  dsimp only at hin hg hgT hstk ⊢
  by_cases hlt : i < ny
  · obtain ⟨yb, yo, rfl, hyr⟩ := src_addr hy (by omega)
    obtain ⟨⟨kd, yoff⟩, hx⟩ : ∃ x, ly[i]? = some x := ⟨ly[i]'(by omega), List.getElem?_eq_getElem (by omega)⟩
    have hxm : (kd, yoff) ∈ ly := List.mem_of_getElem? hx
    have hxo := hyo _ hxm
    dsimp only at hxo
    obtain ⟨o, rfl, ho⟩ := natOf (off := yoff) (by omega)
    have htk : ly.take (i + 1) = ly.take i ++ [(kd, (o : Int))] := by rw [List.take_add_one, hx]; rfl
    have hrd : RdN [I] yb (yo + i * 2) [.string kd, .int .i64 (o : Nat)] := rd_part (f := lyC) (fun _ => rfl) hyr hx
    obtain ⟨vt, vu, rfl⟩ := stk_isI hstk
    repeat (first | refine wZ ?_ | intro b)
    rw [decide_eq_true (by omega : (i : Int) < (ny : Int))]
    repeat (first | refine wZ ?_ | intro b)
    refine l_plain rfl ?_
    apply s_val rfl rfl
    · exact RunS.v (r_index (i := i) rfl rfl rfl hlt)
    refine l_plain rfl ?_
    apply s_val rfl rfl
    · exact r_loadN (vs := [.string kd, .int .i64 (o : Nat)]) rfl rfl rfl (RdN.ent hrd (Ent.pick1 (i := 6) rfl))
    repeat (first | refine wZ ?_ | intro b)
    revert b; intro xb
    refine G.ent (L' := blk xb (cl [.string kd, .int .i64 (o : Nat)] 29) :: S :: blk mc0 (cl [.pointer (some ⟨mb, 0, none⟩)] 47) :: blk pb (cl [.slice none 0 0] 31) :: blk ob (cl [.slice none 0 0] 22) :: blk tb (cl [.slice none 0 0] 30) :: glb :: I :: F) (Ent.refl _) ?_
    by_cases hk : kd = sInner
    · subst hk
      have hkO : kindO (sInner, (o : Int)) = some o := by unfold kindO; rw [if_pos rfl, ho]
      repeat (first | refine wZ ?_ | intro b)
      refine l_plain rfl (s_call rfl rfl (NewInner_c o) [] rfl ?_ (fun _ _ h => h.elim))
      rintro _ _ ⟨ib2, rfl, rfl⟩
      obtain ⟨S', hst', hsh⟩ := stk_inner hstk ib2 o (by omega)
      repeat (first | refine wZ ?_ | intro b)
      refine at_intro (i + 1, cfAdd g (some o), .iface 56 (.pointer (some ⟨ib2, 0, none⟩)), S') ⟨⟨hlt, ?_, ?_, hst'⟩, by dsimp only; omega⟩ ⟨rfl, rfl, rfl, rfl, rfl, rfl, rfl, rfl, rfl, trivial⟩ ?_
      · dsimp only
        rw [htk, List.map_append, cfOf, List.foldl_append, ← cfOf, ← hg]
        show _ = cfAdd g (kindO (sInner, (o : Int)))
        rw [hkO]
      · dsimp only
        have := cfAdd_le g (some o)
        dsimp only at this
        omega
      · exact Ent.trans (arr_ent 0 [0, 1] _) ((hsh _).trans (arr_ent 1 [0, 1, 1, 1, 1, 1, 1] _))
    · rw [ne_lit hk]
      have hkO : kindO (kd, (o : Int)) = none := by unfold kindO; rw [if_neg hk]
      repeat (first | refine wZ ?_ | intro b)
      revert b; intro nb
      refine G.ent (L' := blk nb (cl [.iface vt vu] 54) :: blk xb (cl [.string kd, .int .i64 (o : Nat)] 29) :: S :: blk mc0 (cl [.pointer (some ⟨mb, 0, none⟩)] 47) :: blk pb (cl [.slice none 0 0] 31) :: blk ob (cl [.slice none 0 0] 22) :: blk tb (cl [.slice none 0 0] 30) :: glb :: I :: F) (Ent.refl _) ?_
      refine l_plain rfl ?_
      apply s_val rfl rfl
      · exact RunS.v (r_makeFn rfl)
      repeat (first | refine wZ ?_ | intro b)
      refine l_plain rfl (s_call rfl rfl (NewRoll_c (t := vt) (u := vu)) [] rfl ?_ (fun _ _ h => h.elim))
      rintro _ _ ⟨rb, rfl, rfl⟩
      obtain ⟨S', hst', hsh⟩ := stk_roll hstk rb nb (by omega)
      repeat (first | refine wZ ?_ | intro b)
      refine at_intro (i + 1, cfAdd g none, tv rb, S') ⟨⟨hlt, ?_, ?_, hst'⟩, by dsimp only; omega⟩ ⟨rfl, rfl, rfl, rfl, rfl, rfl, rfl, rfl, rfl, trivial⟩ ?_
      · dsimp only
        rw [htk, List.map_append, cfOf, List.foldl_append, ← cfOf, ← hg]
        show _ = cfAdd g (kindO (kd, (o : Int)))
        rw [hkO]
      · dsimp only
        have := cfAdd_le g none
        dsimp only at this
        omega
      · exact Ent.trans (arr_ent 0 [0, 2, 0] _) ((hsh _).trans (arr_ent 1 [0, 1, 1, 1, 1, 1, 1] _))
  · obtain rfl : i = ny := by omega
    clear hlt
    repeat (first | refine wZ ?_ | intro b)
    rw [decide_eq_false (by omega : ¬ (i : Int) < (i : Int))]
    repeat (first | refine wZ ?_ | intro b)
    have hcf : cfOf (ly.map kindO) = g := by rw [hg, List.take_of_length_le (by omega)]
    rw [hcf]
    obtain ⟨H, hM, hH1, hH2⟩ := stk_mc hglb hstk (by omega)
    have hg6 : g.T + g.u ≤ 400000 := by omega
    have hI0 : (⟨c0, ni, [], .idle⟩ : MS).bnd g 0 := ⟨by dsimp only; omega, Nat.le_refl _, trivial⟩
    refine c_loop (α := Nat × MS × List (Tld × Value) × Option Addr × Nat) (fun y => [(65, .int .i64 (y.1 : Nat)), (64, .int .i64 (nl : Nat)), (63, .slice la nl lc), (10, v), (9, .pointer (some ⟨mc0, 0, none⟩)), (8, .pointer (some ⟨pb, 0, none⟩)), (7, .pointer (some ⟨ob, 0, none⟩)), (6, .pointer (some ⟨tb, 0, none⟩))])
      (fun y => slP (.slice y.2.2.2.1 y.1 y.2.2.2.2) 46 3 (y.2.2.1.flatMap tdC) :: blk tb (cl [.slice y.2.2.2.1 y.1 y.2.2.2.2] 30) :: blk ob (cl [.slice none 0 0] 22) :: blk mc0 (cl [.pointer (some ⟨mb, 0, none⟩)] 47) :: glb :: H y.2.1 :: tds y.2.2.1 :: I :: F)
      (fun y => y.1 ≤ nl ∧ y.2.2.1.length = y.1 ∧ Run g ⟨c0, ni, [], .idle⟩ ((ls.take y.1).map (·.1)) (y.2.2.1.map (·.1)) y.2.1) (fun y => nl - y.1) (0, ⟨c0, ni, [], .idle⟩, [], none, 0)
      ⟨Nat.zero_le _, rfl, .nil _⟩ (by exact ⟨rfl, rfl, rfl, rfl, rfl, rfl, rfl, rfl, trivial⟩) ?_ ?_
    · refine Ent.trans (arr_ent 0 [0, 1] _) ?_
      refine (Ent.cons ptsH_nil).trans ((hH1 _).trans ?_)
      refine (slP_nil (e := 46) (size := 3)).trans ?_
      exact Ent.trans (arr_ent 0 [0, 3, 2, 1, 1, 0] _) (Ent.append [_, _, _, _, _, _] tds_nil)
    rintro ⟨k, σ, TL, ta, tc⟩ ⟨hk, hTL, hrun⟩
    dsimp only at hk hTL hrun ⊢
    by_cases hlt : k < nl
    · obtain ⟨lb, lo, rfl, hlr⟩ := src_addr hl (by omega)
      obtain ⟨⟨x, sl⟩, hx⟩ : ∃ x, ls[k]? = some x := ⟨ls[k]'(by omega), List.getElem?_eq_getElem (by omega)⟩
      obtain ⟨hfew, hsl⟩ := hls _ (List.mem_of_getElem? hx)
      dsimp only at hfew hsl
      obtain ⟨sa, sn, sc, rfl⟩ := src_isl hsl
      have htk : ls.take (k + 1) = ls.take k ++ [(x, (.slice sa sn sc))] := by rw [List.take_add_one, hx]; rfl
      have hsplit : ls.map (·.1) = (ls.take k).map (·.1) ++ x :: (ls.drop (k + 1)).map (·.1) := by
        have h1 : ls.drop k = (x, Value.slice sa sn sc) :: ls.drop (k + 1) := by
          rw [List.drop_eq_getElem_cons (by omega)]
          congr 1
          rw [List.getElem?_eq_getElem (by omega)] at hx
          exact Option.some.inj hx
        conv => lhs; rw [← List.take_append_drop k ls, h1]
        simp
      have hrd : RdN [I] lb (lo + k * 4) [.string x.d, .int .i64 x.off, .int .i64 x.n, (.slice sa sn sc)] := rd_part (f := stC) (fun _ => rfl) hlr hx
      have hbk := Run.bnd hg6 hI0 hrun (fun x hx => by
        obtain ⟨y, hy1, rfl⟩ := List.mem_map.1 hx
        exact (hls y (List.mem_of_mem_take hy1)).1)
      rw [List.length_map, List.length_take] at hbk
      have hok : σ.ok := hbk.ok (by omega)
      obtain ⟨hfo, hfn, hfb⟩ := hfew
      repeat (first | refine wZ ?_ | intro b)
      rw [decide_eq_true (by omega : (k : Int) < (nl : Int))]
      repeat (first | refine wZ ?_ | intro b)
      refine l_plain rfl ?_
      apply s_val rfl rfl
      · exact RunS.v (r_index (i := k) rfl rfl rfl hlt)
      refine l_plain rfl ?_
      apply s_val rfl rfl
      · exact r_loadN (vs := [.string x.d, .int .i64 x.off, .int .i64 x.n, (.slice sa sn sc)]) rfl rfl rfl (RdN.ent hrd (Ent.pick1 (i := 7) rfl))
      repeat (first | refine wY ?_ | intro b)
      revert b; intro xb
      refine G.ent (L' := slP (.slice ta k tc) 46 3 (TL.flatMap tdC) :: blk tb (cl [.slice ta k tc] 30) :: blk ob (cl [.slice none 0 0] 22) :: blk mc0 (cl [.pointer (some ⟨mb, 0, none⟩)] 47) :: glb :: H σ :: tds TL :: I :: blk xb (cl [.string x.d, .int .i64 x.off, .int .i64 x.n, (.slice sa sn sc)] 43) :: F) (arr_ent 0 [1, 1, 1, 1, 1, 1, 1, 1, 0] _) ?_
      repeat (first | refine wY ?_ | intro b)
      refine h_any [blk xb (cl [.string x.d, .int .i64 x.off, .int .i64 x.n, (.slice sa sn sc)] 43)] 7 rfl ?_
      have hE : Ent (slP (.slice ta k tc) 46 3 (TL.flatMap tdC) :: blk tb (cl [.slice ta k tc] 30) :: blk ob (cl [.slice none 0 0] 22) :: blk mc0 (cl [.pointer (some ⟨mb, 0, none⟩)] 47) :: glb :: H σ :: tds TL :: I :: blk xb (cl [.string x.d, .int .i64 x.off, .int .i64 x.n, (.slice sa sn sc)] 43) :: F) [blk xb (cl [.string x.d, .int .i64 x.off, .int .i64 x.n, (.slice sa sn sc)] 43)] := Ent.trans (arr_ent 0 [8] _) (Ent.left [_] _)
      refine h_take (by assumption) 1 rfl (by kernel_rfl) (by kernel_rfl) (by kernel_rfl) rfl rfl rfl pQ rV ?_
      refine h_take (by assumption) 2 rfl (by kernel_rfl) (by kernel_rfl) (by kernel_rfl) rfl rfl rfl pQ rV ?_
      refine h_two 0 3 (by kernel_rfl) rfl rfl rfl rfl ?_ ?_
      · apply s_val rfl rfl
        · exact r_load rfl rfl (rd_blk 1 rfl rfl)
        refine h_then (Ent.trans (arr_ent 0 [8] _) (Ent.left [_] _)) ?_
        refine h_one 3 (by kernel_rfl) rfl rfl ?_
        refine s_call rfl rfl (step_c hM hglb hok x.d (by omega) (by omega) x.bs x.bs.length (by omega) hsl) [4, 4, 5] rfl ?_ ?_
        rotate_left
        · rintro c B ⟨hbrk, ⟨T, pv, rfl⟩, rfl⟩
          repeat (first | refine wZ ?_ | intro b)
          subst hTL
          refine G.ent (L' := ptsH pb σ.l :: memf mb σ.c σ.s :: glb :: I :: slP (.slice ta TL.length tc) 46 3 (TL.flatMap tdC) :: blk tb (cl [.slice ta TL.length tc] 30) :: blk ob (cl [.slice none 0 0] 22) :: blk mc0 (cl [.pointer (some ⟨mb, 0, none⟩)] 47) :: tds TL :: F) (Ent.trans (arr_ent 0 [1] _) ((hH2 σ _).trans (Ent.trans (arr_ent 0 [1, 0, 0, 0, 0, 0, 0, 0, 0] _) (Ent.append [_, _, _, _, _, _, _, _, _] Ent.drop)))) ?_
          refine pts_open fun pa pc => ?_
          refine G.ent (L' := slP (.slice ta TL.length tc) 46 3 (TL.flatMap tdC) :: blk tb (cl [.slice ta TL.length tc] 30) :: blk ob (cl [.slice none 0 0] 22) :: blk mc0 (cl [.pointer (some ⟨mb, 0, none⟩)] 47) :: glb :: memf mb σ.c σ.s :: tds TL :: blk pb (cl [.slice pa σ.l.length pc] 31) :: slP (.slice pa σ.l.length pc) 2 1 (ints σ.l) :: I :: F) (arr_ent 0 [5, 5, 5, 5, 3, 2, 3, 0, 0, 0] _) ?_
          refine files_pan rfl rfl rfl rfl hglb (s := σ.s) (c := σ.c) ?_ rfl ?_ ?_
          · have := hbk.1
            omega
          · omega
          · intro a c' ov'
            refine ⟨a, c', ov', pa, pc, TL ++ [flt], σ, .inr ⟨_, x, _, _, hsplit, hrun, hbrk, by simp [flt]⟩, ?_, ?_⟩
            · simp
            · simp
        rintro _ _ ⟨e, q, dat, sl', σ', hstd, rfl, rfl⟩
        refine G.fact (p := ∃ a n c, sl' = .slice a n c) (fun H h => tdH_isl (h.ent (arr_ent 0 [3] _))) ?_
        rintro ⟨ra, rn, rc, rfl⟩
        refine h_then (Ent.trans (arr_ent 0 [9] _) (Ent.left [_] _)) ?_
        refine h_one 4 (by kernel_rfl) rfl rfl ?_
        refine s_build (size := 3) (vs := [toldV e q (.slice ra rn rc)]) (l := tdC (⟨e, q, dat⟩, .slice ra rn rc)) rfl rfl rfl rfl rfl (by intro v hv; simp at hv; subst hv; rfl) (by simp [Value.cells, toldV, tdC]) rfl rfl ?_
        intro nb2
        refine h_then (Ent.trans (arr_ent 0 [10] _) (Ent.left [_] _)) ?_
        refine h_one 5 (by kernel_rfl) rfl rfl ?_
        refine s_append (i := 5) rfl rfl rfl (Src.some _ _ _ _ _ rfl (rdn_all 0 rfl)) rfl rfl (by rw [flat3, hTL]) rfl (by omega) (by simp only [maxLen]; omega) rfl ?_
        intro a2 c2
        refine h_then (Ent.trans (arr_ent 0 [10] _) (Ent.left [_] _)) ?_
        refine h_one 6 (by kernel_rfl) rfl rfl ?_
        refine s_store (i := 6) rfl rfl rfl rfl rfl rfl rfl ?_
        refine h_then (Ent.trans (arr_ent 0 [10] _) (Ent.left [_] _)) ?_
        refine h_done (by kernel_rfl) ?_
        refine q_block_n ?_
        repeat (first | refine wZ ?_ | intro b)
        refine at_intro (k + 1, σ', TL ++ [(⟨e, q, dat⟩, .slice ra rn rc)], a2, c2) ⟨⟨hlt, by simp [hTL], ?_⟩, by dsimp only; omega⟩ ⟨rfl, rfl, rfl, rfl, rfl, rfl, rfl, rfl, trivial⟩ ?_
        · dsimp only
          rw [htk, List.map_append, List.map_append]
          exact .snoc hrun hstd
        · dsimp only
          rw [flat_add]
          exact Ent.trans (arr_ent 2 [1, 0, 5, 5, 1, 1, 2, 2, 1] _) (Ent.append [_, _, _, _, _, _] (tds_add (TL := TL) (x := (⟨e, q, dat⟩, .slice ra rn rc))))
      · refine s_call rfl rfl (step_c hM hglb hok x.d (by omega) (by omega) x.bs x.bs.length (by omega) hsl) [4, 4, 5] rfl ?_ ?_
        rotate_left
        · rintro c B ⟨hbrk, ⟨T, pv, rfl⟩, rfl⟩
          repeat (first | refine wZ ?_ | intro b)
          subst hTL
          refine G.ent (L' := ptsH pb σ.l :: memf mb σ.c σ.s :: glb :: I :: slP (.slice ta TL.length tc) 46 3 (TL.flatMap tdC) :: blk tb (cl [.slice ta TL.length tc] 30) :: blk ob (cl [.slice none 0 0] 22) :: blk mc0 (cl [.pointer (some ⟨mb, 0, none⟩)] 47) :: tds TL :: F) (Ent.trans (arr_ent 0 [1] _) ((hH2 σ _).trans (Ent.trans (arr_ent 0 [1, 0, 0, 0, 0, 0, 0, 0, 0] _) (Ent.append [_, _, _, _, _, _, _, _, _] Ent.drop)))) ?_
          refine pts_open fun pa pc => ?_
          refine G.ent (L' := slP (.slice ta TL.length tc) 46 3 (TL.flatMap tdC) :: blk tb (cl [.slice ta TL.length tc] 30) :: blk ob (cl [.slice none 0 0] 22) :: blk mc0 (cl [.pointer (some ⟨mb, 0, none⟩)] 47) :: glb :: memf mb σ.c σ.s :: tds TL :: blk pb (cl [.slice pa σ.l.length pc] 31) :: slP (.slice pa σ.l.length pc) 2 1 (ints σ.l) :: I :: F) (arr_ent 0 [5, 5, 5, 5, 3, 2, 3, 0, 0, 0] _) ?_
          refine files_pan rfl rfl rfl rfl hglb (s := σ.s) (c := σ.c) ?_ rfl ?_ ?_
          · have := hbk.1
            omega
          · omega
          · intro a c' ov'
            refine ⟨a, c', ov', pa, pc, TL ++ [flt], σ, .inr ⟨_, x, _, _, hsplit, hrun, hbrk, by simp [flt]⟩, ?_, ?_⟩
            · simp
            · simp
        rintro _ _ ⟨e, q, dat, sl', σ', hstd, rfl, rfl⟩
        refine G.fact (p := ∃ a n c, sl' = .slice a n c) (fun H h => tdH_isl (h.ent (arr_ent 0 [3] _))) ?_
        rintro ⟨ra, rn, rc, rfl⟩
        refine h_then (Ent.trans (arr_ent 0 [9] _) (Ent.left [_] _)) ?_
        refine h_two 0 4 (by kernel_rfl) rfl rfl rfl rfl ?_ ?_
        · apply s_val rfl rfl
          · exact r_load rfl rfl (rd_blk 5 rfl rfl)
          refine h_then (Ent.trans (arr_ent 0 [9] _) (Ent.left [_] _)) ?_
          refine h_one 4 (by kernel_rfl) rfl rfl ?_
          refine s_build (size := 3) (vs := [toldV e q (.slice ra rn rc)]) (l := tdC (⟨e, q, dat⟩, .slice ra rn rc)) rfl rfl rfl rfl rfl (by intro v hv; simp at hv; subst hv; rfl) (by simp [Value.cells, toldV, tdC]) rfl rfl ?_
          intro nb2
          refine h_then (Ent.trans (arr_ent 0 [10] _) (Ent.left [_] _)) ?_
          refine h_one 5 (by kernel_rfl) rfl rfl ?_
          refine s_append (i := 5) rfl rfl rfl (Src.some _ _ _ _ _ rfl (rdn_all 0 rfl)) rfl rfl (by rw [flat3, hTL]) rfl (by omega) (by simp only [maxLen]; omega) rfl ?_
          intro a2 c2
          refine h_then (Ent.trans (arr_ent 0 [10] _) (Ent.left [_] _)) ?_
          refine h_one 6 (by kernel_rfl) rfl rfl ?_
          refine s_store (i := 6) rfl rfl rfl rfl rfl rfl rfl ?_
          refine h_then (Ent.trans (arr_ent 0 [10] _) (Ent.left [_] _)) ?_
          refine h_done (by kernel_rfl) ?_
          refine q_block_n ?_
          repeat (first | refine wZ ?_ | intro b)
          refine at_intro (k + 1, σ', TL ++ [(⟨e, q, dat⟩, .slice ra rn rc)], a2, c2) ⟨⟨hlt, by simp [hTL], ?_⟩, by dsimp only; omega⟩ ⟨rfl, rfl, rfl, rfl, rfl, rfl, rfl, rfl, trivial⟩ ?_
          · dsimp only
            rw [htk, List.map_append, List.map_append]
            exact .snoc hrun hstd
          · dsimp only
            rw [flat_add]
            exact Ent.trans (arr_ent 2 [1, 0, 5, 5, 1, 1, 2, 2, 1] _) (Ent.append [_, _, _, _, _, _] (tds_add (TL := TL) (x := (⟨e, q, dat⟩, .slice ra rn rc))))
        · refine s_build (size := 3) (vs := [toldV e q (.slice ra rn rc)]) (l := tdC (⟨e, q, dat⟩, .slice ra rn rc)) rfl rfl rfl rfl rfl (by intro v hv; simp at hv; subst hv; rfl) (by simp [Value.cells, toldV, tdC]) rfl rfl ?_
          intro nb2
          refine h_then (Ent.trans (arr_ent 0 [10] _) (Ent.left [_] _)) ?_
          refine h_one 0 (by kernel_rfl) rfl rfl ?_
          apply s_val rfl rfl
          · exact r_load rfl rfl (rd_blk 6 rfl rfl)
          refine h_then (Ent.trans (arr_ent 0 [10] _) (Ent.left [_] _)) ?_
          refine h_one 5 (by kernel_rfl) rfl rfl ?_
          refine s_append (i := 5) rfl rfl rfl (Src.some _ _ _ _ _ rfl (rdn_all 0 rfl)) rfl rfl (by rw [flat3, hTL]) rfl (by omega) (by simp only [maxLen]; omega) rfl ?_
          intro a2 c2
          refine h_then (Ent.trans (arr_ent 0 [10] _) (Ent.left [_] _)) ?_
          refine h_one 6 (by kernel_rfl) rfl rfl ?_
          refine s_store (i := 6) rfl rfl rfl rfl rfl rfl rfl ?_
          refine h_then (Ent.trans (arr_ent 0 [10] _) (Ent.left [_] _)) ?_
          refine h_done (by kernel_rfl) ?_
          refine q_block_n ?_
          repeat (first | refine wZ ?_ | intro b)
          refine at_intro (k + 1, σ', TL ++ [(⟨e, q, dat⟩, .slice ra rn rc)], a2, c2) ⟨⟨hlt, by simp [hTL], ?_⟩, by dsimp only; omega⟩ ⟨rfl, rfl, rfl, rfl, rfl, rfl, rfl, rfl, trivial⟩ ?_
          · dsimp only
            rw [htk, List.map_append, List.map_append]
            exact .snoc hrun hstd
          · dsimp only
            rw [flat_add]
            exact Ent.trans (arr_ent 2 [1, 0, 5, 5, 1, 1, 2, 2, 1] _) (Ent.append [_, _, _, _, _, _] (tds_add (TL := TL) (x := (⟨e, q, dat⟩, .slice ra rn rc))))
    · obtain rfl : k = nl := by omega
      clear hlt
      repeat (first | refine wZ ?_ | intro b)
      rw [decide_eq_false (by omega : ¬ (k : Int) < (k : Int))]
      refine G.ent (L' := ptsH pb σ.l :: memf mb σ.c σ.s :: slP (.slice ta k tc) 46 3 (TL.flatMap tdC) :: blk tb (cl [.slice ta k tc] 30) :: blk ob (cl [.slice none 0 0] 22) :: blk mc0 (cl [.pointer (some ⟨mb, 0, none⟩)] 47) :: glb :: tds TL :: I :: F) (Ent.trans (arr_ent 0 [5] _) ((hH2 σ _).trans (arr_ent 0 [1] _))) ?_
      refine pts_open fun pa pc => ?_
      refine G.ent (L' := slP (.slice ta k tc) 46 3 (TL.flatMap tdC) :: blk tb (cl [.slice ta k tc] 30) :: blk ob (cl [.slice none 0 0] 22) :: blk mc0 (cl [.pointer (some ⟨mb, 0, none⟩)] 47) :: glb :: memf mb σ.c σ.s :: tds TL :: blk pb (cl [.slice pa σ.l.length pc] 31) :: slP (.slice pa σ.l.length pc) 2 1 (ints σ.l) :: I :: F) (arr_ent 0 [3, 3, 3, 3, 3, 2, 2, 0, 0, 0] _) ?_
      repeat (first | refine wY ?_ | intro b)
      have hbk := Run.bnd hg6 hI0 hrun (fun x hx => by
        obtain ⟨y, hy1, rfl⟩ := List.mem_map.1 hx
        exact (hls y (List.mem_of_mem_take hy1)).1)
      refine h_any [blk tb (cl [.slice ta k tc] 30), blk mc0 (cl [.pointer (some ⟨mb, 0, none⟩)] 47), blk pb (cl [.slice pa σ.l.length pc] 31)] 8 rfl ?_
      have hE : Ent (slP (.slice ta k tc) 46 3 (TL.flatMap tdC) :: blk tb (cl [.slice ta k tc] 30) :: blk ob (cl [.slice none 0 0] 22) :: blk mc0 (cl [.pointer (some ⟨mb, 0, none⟩)] 47) :: glb :: memf mb σ.c σ.s :: tds TL :: blk pb (cl [.slice pa σ.l.length pc] 31) :: slP (.slice pa σ.l.length pc) 2 1 (ints σ.l) :: I :: F) [blk tb (cl [.slice ta k tc] 30), blk mc0 (cl [.pointer (some ⟨mb, 0, none⟩)] 47), blk pb (cl [.slice pa σ.l.length pc] 31)] := Ent.trans (arr_ent 0 [1, 2, 5] _) (Ent.left [_, _, _] _)
      refine h_take (by assumption) 0 rfl (by kernel_rfl) (by kernel_rfl) (by kernel_rfl) rfl rfl rfl pQ rV ?_
      refine h_take (by assumption) 1 rfl (by kernel_rfl) (by kernel_rfl) (by kernel_rfl) rfl rfl rfl pQ rV ?_
      refine h_take (by assumption) 2 rfl (by kernel_rfl) (by kernel_rfl) (by kernel_rfl) rfl rfl rfl pQ rV ?_
      refine h_take (by assumption) 4 rfl (by kernel_rfl) (by kernel_rfl) (by kernel_rfl) rfl rfl rfl pQ rV ?_
      refine h_one 3 (by kernel_rfl) rfl rfl ?_
      refine s_call rfl rfl (mwhole_c hglb hbk.1) [4, 4] rfl ?_ (fun _ _ h => h.elim)
      rintro _ _ ⟨⟨oa, on, oc, rfl⟩, rfl⟩
      refine h_then (Ent.trans (arr_ent 0 [4, 5, 6] _) (Ent.left [_, _, _] _)) ?_
      refine h_one 5 (by kernel_rfl) rfl rfl ?_
      refine s_store (i := 4) rfl rfl rfl rfl rfl rfl rfl ?_
      refine h_then (Ent.trans (arr_ent 0 [0, 5, 6] _) (Ent.left [_, _, _] _)) ?_
      refine h_one 6 (by kernel_rfl) rfl rfl ?_
      refine s_store (i := 5) rfl rfl rfl rfl rfl rfl rfl ?_
      refine h_then (Ent.trans (arr_ent 0 [1, 5, 6] _) (Ent.left [_, _, _] _)) ?_
      refine h_one 7 (by kernel_rfl) rfl rfl ?_
      refine s_store (i := 8) rfl rfl rfl rfl rfl rfl rfl ?_
      refine h_then (Ent.trans (arr_ent 0 [2, 6, 0] _) (Ent.left [_, _, _] _)) ?_
      refine h_done (by kernel_rfl) ?_
      refine q_then_n ?_
      subst hTL
      rw [List.take_of_length_le (by omega)] at hrun
      repeat (first | refine wZ ?_ | intro b)
      refine e_retR Tryz.func21 rfl rfl Tryz.ntmps21 (by decide) (by decide) (by decide) (Nat.le_of_ble_eq_true rfl) ?_
      exact fun tmps w hgg hw => ⟨_, res_ccc rfl rfl rfl rfl rfl rfl rfl (rd_blk 2 rfl rfl) (rd_blk 1 rfl rfl) (rd_blk 0 rfl rfl) tmps w hgg hw, _, ⟨ta, tc, .slice oa on oc, pa, pc, TL, σ, .inl hrun, rfl, rfl⟩, hw.ent (arr_ent 5 [3, 9, 5, 6, 4, 5] _)⟩
end
end Go.Proofs.YtfebpbflpdppiaaGreatDoor
namespace Go.Proofs.YtfebpbflpdppiaaGreatDoor
open Go Go.Sl
set_option maxRecDepth 100000
def i16s (l : List Int) : List Value := l.map fun i => .int .i16 i
def bls (l : List Bool) : List Value := l.map fun b => .bool b
@[simp] theorem i16s_length (l : List Int) : (i16s l).length = l.length := by simp [i16s]
@[simp] theorem bls_length (l : List Bool) : (bls l).length = l.length := by simp [bls]
theorem i16s_append (a b : List Int) : i16s (a ++ b) = i16s a ++ i16s b := by simp [i16s]
theorem i16s_one (l : List Int) : (i16s l).all (·.oneCell') = true := by simp [i16s, Value.oneCell']
theorem bls_one (l : List Bool) : (bls l).all (·.oneCell') = true := by simp [bls, Value.oneCell']
theorem i16s_take (l : List Int) (k : Nat) : (i16s l).take k = i16s (l.take k) := by simp [i16s, List.map_take]
theorem i16s_drop (l : List Int) (k : Nat) : (i16s l).drop k = i16s (l.drop k) := by simp [i16s, List.map_drop]
theorem bls_take (l : List Bool) (k : Nat) : (bls l).take k = bls (l.take k) := by simp [bls, List.map_take]
/-- the bytes of a file, as the reference has them -/
def kn (bs : List UInt8) : List Int := bs.map fun b => (b.toNat : Int)
@[simp] theorem kn_length (bs : List UInt8) : (kn bs).length = bs.length := by simp [kn]
theorem wrap_i16 {n : Nat} (h : n < 32768) : IntKind.i16.wrap (n : Int) = (n : Int) := by
  unfold IntKind.wrap
  simp only [show IntKind.i16.bits = 16 from rfl, show IntKind.i16.signed = true from rfl, Bool.true_and]
  have e : (2 : Int) ^ 16 = 65536 := by decide
  have e' : (2 : Int) ^ (16 - 1) = 32768 := by decide
  simp only [e, e', ge_iff_le, decide_eq_true_eq]
  split <;> omega
section
variable {L : List HP} {size n c : Nat} {a : Option Addr} {l : List Value}
/-- where a slice begins that begins later -/
theorem Src.lo {lo : Nat} (h : Src L size (.slice a n c) n l) (hn : n ≤ c) (hlo : lo ≤ n) : Src L size (.slice (if c = lo then a else a.map (·.add (lo * size))) (n - lo) (c - lo)) (n - lo) (l.drop (lo * size)) := by
  cases h with
  | nil =>
    obtain rfl : lo = 0 := by omega
    simpa using Src.nil
  | emp ad _ =>
    obtain rfl : lo = 0 := by omega
    by_cases hc : c = 0
    · rw [if_pos hc]
      simpa using Src.emp ad _
    · rw [if_neg hc, Option.map_some]
      simpa using Src.emp _ _
  | some b o _ _ _ hl hr =>
    by_cases hc : c = lo
    · rw [if_pos hc]
      obtain rfl : lo = n := by omega
      refine .some b o _ _ _ ?_ ?_
      · simp [hl]
      · rw [List.drop_of_length_le (by omega)]
        trivial
    · rw [if_neg hc, Option.map_some, addr_add]
      refine .some b (o + lo * size) _ _ _ ?_ (RdN.skip hr _)
      rw [List.length_drop, hl, Nat.sub_mul]
theorem Src.hi {hi : Nat} (h : Src L size (.slice a n c) n l) (hh : hi ≤ n) : Src L size (.slice a hi c) hi (l.take (hi * size)) := by
  cases h with
  | nil =>
    obtain rfl : hi = 0 := by omega
    simpa using Src.nil
  | emp ad _ =>
    obtain rfl : hi = 0 := by omega
    simpa using Src.emp ad _
  | some b o _ _ _ hl hr =>
    refine .some b o _ _ _ ?_ (RdN.take hr _)
    rw [List.length_take, hl]
    exact Nat.min_eq_left (Nat.mul_le_mul_right _ hh)
end
attribute [local irreducible] wpList Code.wp Exit.then Exit.inBlock bodyPost RunS RunV G St Ct Sat Ent At Rd GQ QL wpAny wpOp wpQuiet slP Sl.ex sep
section
variable {D : HP}
theorem known_c (bs : List UInt8) (a : Option Addr) (n c : Nat) (hs : Src [D] 1 (.slice a n c) n (u8s bs)) (hn : n ≤ 10000000) :
    Ct Tryz.prog 36 #[.slice a n c] [D] (fun v B => ∃ a' c', v = .slice a' n c' ∧ B = [D, slP (.slice a' n c') 123 1 (i16s (kn bs))]) nev := by
  have hk : bs.length = n := by have := hs.len; simpa using this
  refine Ct.of Tryz.func36 rfl Tryz.ntmps36 rfl fun m F => ?_
  repeat (first | refine wZ ?_ | intro b)
  refine c_loop (α := Nat × Option Addr × Nat) (fun y => [(8, .int .i64 (y.1 : Nat)), (7, .int .i64 (n : Nat)), (6, .slice a n c), (3, .slice y.2.1 y.1 y.2.2)])
    (fun y => slP (.slice y.2.1 y.1 y.2.2) 123 1 (i16s ((kn bs).take y.1)) :: D :: F) (fun y => y.1 ≤ n) (fun y => n - y.1) (0, none, 0) (Nat.zero_le _) (by exact ⟨rfl, rfl, rfl, rfl, trivial⟩) slP_nil ?_
  rintro ⟨i, a', c'⟩ hi
  dsimp only at hi ⊢
  repeat (first | refine wZ ?_ | intro b)
  by_cases hlt : i < n
  · rw [decide_eq_true (by omega : (i : Int) < (n : Int))]
    obtain ⟨b0, o0, rfl, hr⟩ := src_addr hs (by omega)
    have hx : (u8s bs)[i]? = some (.int .u8 (bs[i]'(by omega)).toNat) := by rw [u8s_get, List.getElem?_eq_getElem (by omega)]; rfl
    generalize hb : bs[i]'(by omega) = bv at hx
    have hv : bv.toNat < 256 := bv.toNat_lt
    repeat (first | refine wZ ?_ | intro b)
    refine l_plain rfl ?_
    apply s_val rfl rfl
    · exact RunS.v (r_index (i := i) rfl rfl rfl hlt)
    refine l_plain rfl ?_
    apply s_val rfl rfl
    · rw [Nat.mul_one]
      exact r_load rfl rfl (Rd.at (hr.get hx) 1 rfl)
    repeat (first | refine wZ ?_ | intro b)
    rw [wrap_i16 (by omega)]
    repeat (first | refine wZ ?_ | intro b)
    refine l_plain rfl (s_append (i := 1) rfl rfl rfl (Src.some _ _ _ _ _ rfl (rdn_all 0 rfl)) rfl rfl (by simp; omega) rfl (by omega) (by simp only [maxLen]; omega) rfl ?_)
    intro a2 c2
    repeat (first | refine wZ ?_ | intro b)
    have e1 : i16s ((kn bs).take i) ++ [Value.int .i16 (bv.toNat : Int)] = i16s ((kn bs).take (i + 1)) := by
      rw [List.take_add_one, i16s_append]
      congr 1
      simp [kn, i16s, List.getElem?_eq_getElem (show i < bs.length by omega), hb]
    rw [e1]
    exact at_intro (i + 1, a2, c2) ⟨hlt, by dsimp only; omega⟩ ⟨rfl, rfl, rfl, rfl, trivial⟩ (arr_ent 1 [0, 1] _)
  · obtain rfl : i = n := by omega
    rw [decide_eq_false (by omega : ¬ (i : Int) < (i : Int)), List.take_of_length_le (by simp; omega)]
    repeat (first | refine wZ ?_ | intro b)
    exact e_ret1 _ rfl rfl ⟨a', c', rfl, rfl⟩ (arr_ent 0 [1, 0] _)
end
end Go.Proofs.YtfebpbflpdppiaaGreatDoor
namespace Go.Proofs.YtfebpbflpdppiaaGreatDoor
open Go Go.Sl
set_option maxRecDepth 100000
/-- a list with others laid over it, as long as it must be -/
def wrF (p : List Int) (o : Nat) (b : List Int) : List Int := (p ++ List.replicate (o + b.length - p.length) 0).take o ++ b ++ (p ++ List.replicate (o + b.length - p.length) 0).drop (o + b.length)
def cutF (p : List Int) (n : Nat) : List Int := p.take n ++ List.replicate (n - p.length) 0
theorem wrF_length (p : List Int) (o : Nat) (b : List Int) : (wrF p o b).length = max p.length (o + b.length) := by simp [wrF]; omega
theorem cutF_length (p : List Int) (n : Nat) : (cutF p n).length = n := by simp [cutF]; omega
theorem i16s_snoc (l : List Int) (v : Int) : i16s l ++ [.int .i16 v] = i16s (l ++ [v]) := by simp [i16s]
theorem bls_snoc (l : List Bool) (v : Bool) : bls l ++ [.bool v] = bls (l ++ [v]) := by simp [bls]
theorem spl_eq (l vs : List Value) (o : Nat) (h : o + vs.length ≤ l.length) : spl l o vs = l.take o ++ vs ++ l.drop (o + vs.length) := by
  apply List.ext_getElem?
  intro i
  rw [spl_get vs l o i h]
  by_cases h1 : o ≤ i ∧ i < o + vs.length
  · rw [if_pos h1, List.append_assoc, List.getElem?_append_right (by rw [List.length_take]; omega), List.getElem?_append_left (by rw [List.length_take]; omega), List.length_take, Nat.min_eq_left (by omega)]
  · rw [if_neg h1]
    by_cases h2 : i < o
    · rw [List.append_assoc, List.getElem?_append_left (by rw [List.length_take]; omega), List.getElem?_take, if_pos h2]
    · rw [List.getElem?_append_right (by rw [List.length_append, List.length_take]; omega), List.length_append, List.length_take, List.getElem?_drop, Nat.min_eq_left (by omega)]
      congr 1
      omega
section
variable {P : Program} {n : Nat} {ds : List Deferred} {σ : Env} {m : Amb} {L R : List HP} {Q : Exit → Act → World → Prop} {K : Act → World → Prop}
variable {d : Nat} {ty : TypeId} {pos : String} {aft : Array Edge} {gd : Option (Nat × Bool)} {x y : Operand} {t e : TypeId}
theorem slP_open {a : Option Addr} {k c size : Nat} {l : List Value} {Φ : Act → World → Prop} (h0 : a = none → k = 0 → c = 0 → l = [] → G n ds σ m L Φ)
    (h1 : ∀ b rest, a = some ⟨b, 0, none⟩ → l.length = k * size → k ≤ c → c ≤ maxLen → (l ++ rest).length = c * size → G n ds σ m (blk b (cl (l ++ rest) e) :: L) Φ) : G n ds σ m (slP (.slice a k c) e size l :: L) Φ := fun ac w g1 g2 g3 g4 => by
  rcases slP_cases g4.2.2.2 with ⟨e0, h⟩ | ⟨b, cap, k', e1, e2, e3, e4, hr⟩
  · cases e0
    exact h0 rfl rfl rfl h ac w g1 g2 g3 ⟨g4.1, g4.2.1, g4.2.2.1, g4.2.2.2.tail⟩
  · cases e1
    obtain ⟨ha, hg, s1, s2, s3, ⟨cs, hc, hn, ht⟩, hL⟩ := hr
    have hcs : cs.toList = l ++ cs.toList.drop l.length := by
      conv => lhs; rw [← List.take_append_drop l.length cs.toList, ht]
    refine h1 b (cs.toList.drop l.length) rfl e2 e3 e4 ?_ ac w g1 g2 g3 ⟨g4.1, g4.2.1, g4.2.2.1, ha, hg, s1, s2, s3, ?_, hL⟩
    · rw [← hcs, Array.length_toList, hn]
    · show ha b = some (cl (l ++ cs.toList.drop l.length) e)
      rw [hc, ← hcs]
      simp [cl]
theorem slP_shut {b k c size : Nat} {l rest : List Value} (h1 : l.length = k * size) (h2 : k ≤ c) (h3 : c ≤ maxLen) (h4 : (l ++ rest).length = c * size) : Ent (blk b (cl (l ++ rest) e) :: L) (slP (.slice (some ⟨b, 0, none⟩) k c) e size l :: L) :=
  Ent.imp fun h hb => Or.inr ⟨b, c, k, rfl, h1, h2, h3, (l ++ rest).toArray, hb, by simpa using h4, by simp⟩
/-- nothing is copied -/
theorem s_copy0 {dc size bytes kk : Nat} {a : Option Addr} {sv zv : Value} {t' : TypeId} {news : List Value} [h1 : TyU P t (.slice e)] [h2 : TyI P e size bytes zv] (hx : opd σ x = some (.slice a 0 dc)) (hy : opd σ y = some sv)
    (hs : Src L size sv kk news) (hk : Nat.blt d n = true) (h : G n ds ((d, .int .i64 0) :: σ) m L K) : G n ds σ m L (St P ⟨some d, .call ⟨.builtin .copy, #[x, y], #[t, t']⟩, ty, pos, aft, gd⟩ K Q) :=
  s_eff rfl hk fun ac w g hw => by
    refine ⟨_, w, ?_, _, hw, h⟩
    have hlo : (Builtin.lenOf sv).run P w = .ok kk w := by cases hs <;> rfl
    have hfc : (Builtin.firstCells size 0 sv).run P w = .ok #[] w := by
      cases hs with
      | nil => simp [Builtin.firstCells]
      | emp ad c =>
        have := run_loadCells_list (P := P) w ad [] (fun j v hv => by simp at hv)
        simpa [Builtin.firstCells] using this
      | some b o' _ c _ hkk hr =>
        have := run_loadCells_list (P := P) w ⟨b, o', none⟩ [] (fun j v hv => by simp at hv)
        simpa [Builtin.firstCells] using this
    simp only [execOp, resolve, List.map_toArray, List.map_cons, List.map_nil, opd_eval g hx, opd_eval g hy, Sem.run_bind, Sem.run_pure, Result.andThen_ok, invoke, builtin, Builtin.copy_]
    simp only [List.getElem?_toArray, List.getElem?_cons_zero, List.getElem?_cons_succ, Sem.run_bind, run_und h1, Result.andThen_ok, hlo, Go.Sl.run_sizeOf h2, show Nat.min kk 0 = 0 from Nat.min_zero kk, hfc]
    cases a <;> simp [storeCells, goInt]
end
attribute [local irreducible] wpList Code.wp Exit.then Exit.inBlock bodyPost RunS RunV G St Ct Sat Ent At Rd GQ QL wpAny wpOp wpQuiet slP Sl.ex sep
section
variable {Z : HP}
theorem cut_c (p : List Int) (a : Option Addr) (k c nn : Nat) (hs : Src [Z] 1 (.slice a k c) k (i16s p)) (hc : k ≤ c) (hk : k ≤ 10000000) (hn : nn ≤ 10000000) :
    Ct Tryz.prog 50 #[.slice a k c, .int .i64 (nn : Nat)] [Z] (fun v B => ∃ a' c', v = .slice a' nn c' ∧ B = [Z, slP (.slice a' nn c') 123 1 (i16s (cutF p nn))]) nev := by
  have hkl : p.length = k := by have := hs.len; simpa using this
  refine Ct.of Tryz.func50 rfl Tryz.ntmps50 rfl fun m F => ?_
  repeat (first | refine wZ ?_ | intro b)
  rw [show min (nn : Int) (k : Int) = ((min nn k : Nat) : Int) from by omega]
  refine l_plain rfl ?_
  apply s_val rfl rfl
  · exact RunS.v (r_slTo rfl rfl (by omega))
  refine G.ent (L' := slP (.slice (some ⟨b, 0, none⟩) 0 0) 123 1 [] :: Z :: F) (slP_blk (k := 0) rfl (Nat.zero_le _)) ?_
  have hsh := Src.hi (hi := min nn k) hs (by omega)
  rw [Nat.mul_one, i16s_take] at hsh
  refine l_plain rfl (s_append (i := 0) rfl rfl rfl (RE hsh 1 rfl) rfl rfl rfl (i16s_one _) (by omega) (by simp only [maxLen]; omega) rfl ?_)
  intro a1 c1
  rw [List.nil_append, Nat.zero_add]
  repeat (first | refine wZ ?_ | intro b)
  have e0 : p.take (min nn k) = p.take nn := by
    rcases Nat.le_total nn k with h | h
    · rw [Nat.min_eq_left h]
    · rw [Nat.min_eq_right h, List.take_of_length_le (by omega), List.take_of_length_le (by omega)]
  rw [e0]
  refine c_loop (α := Nat × Option Addr × Nat) (fun y => [(1, .int .i64 (nn : Nat)), (5, .slice y.2.1 y.1 y.2.2)])
    (fun y => slP (.slice y.2.1 y.1 y.2.2) 123 1 (i16s (p.take nn ++ List.replicate (y.1 - min nn k) 0)) :: Z :: F) (fun y => min nn k ≤ y.1 ∧ y.1 ≤ nn) (fun y => nn - y.1) (min nn k, a1, c1) ⟨by dsimp only; omega, by dsimp only; omega⟩ (by exact ⟨rfl, rfl, trivial⟩) (by dsimp only; rw [Nat.sub_self, List.replicate_zero, List.append_nil]; exact Ent.refl _) ?_
  rintro ⟨i, a', c'⟩ ⟨hi1, hi2⟩
  dsimp only at hi1 hi2 ⊢
  repeat (first | refine wZ ?_ | intro b)
  by_cases hlt : i < nn
  · rw [decide_eq_true (by omega : (i : Int) < (nn : Int))]
    repeat (first | refine wZ ?_ | intro b)
    refine l_plain rfl (s_append (i := 1) rfl rfl rfl (Src.some _ _ _ _ _ rfl (rdn_all 0 rfl)) rfl rfl (by simp; omega) rfl (by omega) (by simp only [maxLen]; omega) rfl ?_)
    intro a2 c2
    repeat (first | refine wZ ?_ | intro b)
    have e1 : i16s (p.take nn ++ List.replicate (i - min nn k) 0) ++ [Value.int .i16 0] = i16s (p.take nn ++ List.replicate (i + 1 - min nn k) 0) := by
      rw [i16s_snoc, List.append_assoc, show i + 1 - min nn k = (i - min nn k) + 1 from by omega, List.replicate_succ']
    rw [e1]
    exact at_intro (i + 1, a2, c2) ⟨⟨by dsimp only; omega, hlt⟩, by dsimp only; omega⟩ ⟨rfl, rfl, trivial⟩ (arr_ent 1 [0, 1] _)
  · obtain rfl : i = nn := by omega
    rw [decide_eq_false (by omega : ¬ (i : Int) < (i : Int))]
    repeat (first | refine wZ ?_ | intro b)
    have e2 : p.take i ++ List.replicate (i - min i k) 0 = cutF p i := by
      unfold cutF
      rw [hkl, show i - min i k = i - k from by omega]
    rw [e2]
    exact e_ret1 _ rfl rfl ⟨a', c', rfl, rfl⟩ (arr_ent 0 [1, 0] _)
theorem wrote_c (p bl : List Int) (pa ba : Option Addr) (pn pc bn bc o : Nat) (hp : Src [Z] 1 (.slice pa pn pc) pn (i16s p)) (hb : Src [Z] 1 (.slice ba bn bc) bn (i16s bl)) (hpn : pn ≤ 10000000) (hbn : bn ≤ 10000000) (ho : o ≤ 10000000) :
    Ct Tryz.prog 49 #[.slice pa pn pc, .int .i64 (o : Nat), .slice ba bn bc] [Z] (fun v B => ∃ a' c', v = .slice a' (max pn (o + bn)) c' ∧ B = [Z, slP (.slice a' (max pn (o + bn)) c') 123 1 (i16s (wrF p o bl))]) nev := by
  have hpl : p.length = pn := by have := hp.len; simpa using this
  have hbl : bl.length = bn := by have := hb.len; simpa using this
  refine Ct.of Tryz.func49 rfl Tryz.ntmps49 rfl fun m F => ?_
  repeat (first | refine wZ ?_ | intro b)
  revert b; intro tb
  refine G.ent (L' := slP (.slice (some ⟨tb, 0, none⟩) 0 0) 123 1 [] :: Z :: F) (slP_blk (k := 0) rfl (Nat.zero_le _)) ?_
  refine l_plain rfl (s_append (i := 0) rfl rfl rfl (RE hp 1 rfl) rfl rfl rfl (i16s_one _) (by omega) (by simp only [maxLen]; omega) rfl ?_)
  intro a1 c1
  rw [List.nil_append, Nat.zero_add]
  repeat (first | refine wZ ?_ | intro b)
  refine c_loop (α := Nat × Option Addr × Nat) (fun y => [(1, .int .i64 (o : Nat)), (2, .slice ba bn bc), (7, .slice y.2.1 y.1 y.2.2)])
    (fun y => slP (.slice y.2.1 y.1 y.2.2) 123 1 (i16s (p ++ List.replicate (y.1 - pn) 0)) :: Z :: F) (fun y => pn ≤ y.1 ∧ y.1 ≤ max pn (o + bn)) (fun y => max pn (o + bn) - y.1) (pn, a1, c1) ⟨by dsimp only; omega, by dsimp only; omega⟩ (by exact ⟨rfl, rfl, rfl, trivial⟩) (by dsimp only; rw [Nat.sub_self, List.replicate_zero, List.append_nil]; exact Ent.refl _) ?_
  rintro ⟨i, a', c'⟩ ⟨hi1, hi2⟩
  dsimp only at hi1 hi2 ⊢
  repeat (first | refine wZ ?_ | intro b)
  by_cases hlt : i < o + bn
  · rw [decide_eq_true (by omega : (i : Int) < ((o + bn : Nat) : Int))]
    repeat (first | refine wZ ?_ | intro b)
    refine l_plain rfl (s_append (i := 1) rfl rfl rfl (Src.some _ _ _ _ _ rfl (rdn_all 0 rfl)) rfl rfl (by simp; omega) rfl (by omega) (by simp only [maxLen]; omega) rfl ?_)
    intro a2 c2
    repeat (first | refine wZ ?_ | intro b)
    have e1 : i16s (p ++ List.replicate (i - pn) 0) ++ [Value.int .i16 0] = i16s (p ++ List.replicate (i + 1 - pn) 0) := by
      rw [i16s_snoc, List.append_assoc, show i + 1 - pn = (i - pn) + 1 from by omega, List.replicate_succ']
    rw [e1]
    exact at_intro (i + 1, a2, c2) ⟨⟨by dsimp only; omega, by dsimp only; omega⟩, by dsimp only; omega⟩ ⟨rfl, rfl, rfl, trivial⟩ (arr_ent 1 [0, 1] _)
  · obtain rfl : i = max pn (o + bn) := by omega
    rw [decide_eq_false (by omega : ¬ ((max pn (o + bn) : Nat) : Int) < ((o + bn : Nat) : Int))]
    repeat (first | refine wZ ?_ | intro b)
    have e2 : p ++ List.replicate (max pn (o + bn) - pn) 0 = p ++ List.replicate (o + bl.length - p.length) 0 := by rw [hpl, hbl, show max pn (o + bn) - pn = o + bn - pn from by omega]
    rw [e2]
    generalize hq : p ++ List.replicate (o + bl.length - p.length) 0 = q
    have hql : q.length = max pn (o + bn) := by rw [← hq]; simp; omega
    have hw : ∀ rest : List Value, spl (i16s q ++ rest) o (i16s bl) = i16s (wrF p o bl) ++ rest := fun rest => by
      rw [spl_eq _ _ _ (by rw [List.length_append, i16s_length, i16s_length, hql, hbl]; omega), List.take_append_of_le_length (by rw [i16s_length, hql]; omega), List.drop_append_of_le_length (by rw [i16s_length, i16s_length, hql, hbl]; omega), i16s_take, i16s_drop, i16s_length]
      unfold wrF
      rw [hq, i16s_append, i16s_append, List.append_assoc, List.append_assoc, List.append_assoc]
    have hw0 : bn = 0 → wrF p o bl = q := fun h => by
      unfold wrF
      rw [hq, show bl = [] from List.length_eq_zero_iff.1 (by omega)]
      simp
    refine slP_open (fun ha h1 h2 h3 => ?_) (fun db rest ha h1 h2 h3 h4 => ?_)
    · subst ha h2
      have hb0 : bn = 0 := by omega
      have ho0 : o = 0 := by omega
      subst hb0 ho0
      rw [h1]
      refine l_plain rfl ?_
      apply s_val rfl rfl
      · exact RunS.v (r_slLo rfl rfl (by omega))
      repeat (first | refine wZ ?_ | intro b)
      refine l_plain rfl (s_copy0 rfl rfl (RE hb 0 rfl) rfl ?_)
      repeat (first | refine wZ ?_ | intro b)
      refine e_ret1 _ rfl rfl ⟨none, 0, rfl, rfl⟩ ?_
      rw [hw0 rfl]
      have : i16s q = [] := h3
      rw [this]
      exact slP_nil.trans (arr_ent 0 [1, 0] _)
    · subst ha
      refine l_plain rfl ?_
      apply s_val rfl rfl
      · exact RunS.v (r_slAdv rfl rfl (by omega))
      by_cases hc : c' = o
      · rw [show adv db 0 1 o c' = some ⟨db, 0, none⟩ from by unfold adv; rw [if_pos hc], show max pn (o + bn) - o = 0 from by omega]
        have hb0 : bn = 0 := by omega
        subst hb0
        repeat (first | refine wZ ?_ | intro b)
        refine l_plain rfl (s_copy0 rfl rfl (RE hb 1 rfl) rfl ?_)
        repeat (first | refine wZ ?_ | intro b)
        refine e_ret1 _ rfl rfl ⟨some ⟨db, 0, none⟩, c', rfl, rfl⟩ ?_
        rw [hw0 rfl]
        exact (slP_shut h1 h2 h3 h4).trans (arr_ent 0 [1, 0] _)
      · rw [show adv db 0 1 o c' = some ⟨db, 0 + o * 1, none⟩ from by unfold adv; rw [if_neg hc]]
        repeat (first | refine wZ ?_ | intro b)
        refine l_plain rfl (s_copy 0 rfl rfl rfl (RE hb 1 rfl) ?_ (i16s_one _) rfl ?_)
        · rw [h4]
          omega
        · repeat (first | refine wZ ?_ | intro b)
          have e3 : (i16s bl).take (min bn (max pn (o + bn) - o) * 1) = i16s bl := List.take_of_length_le (by rw [i16s_length]; omega)
          rw [e3, Nat.zero_add, Nat.mul_one, hw rest]
          refine e_ret1 _ rfl rfl ⟨some ⟨db, 0, none⟩, c', rfl, rfl⟩ ?_
          refine (slP_shut (by rw [i16s_length, wrF_length, hpl, hbl, Nat.mul_one]) h2 h3 ?_).trans (arr_ent 0 [1, 0] _)
          rw [List.length_append, i16s_length] at h4 ⊢
          rw [wrF_length, hpl, hbl]
          omega
end
end Go.Proofs.YtfebpbflpdppiaaGreatDoor
