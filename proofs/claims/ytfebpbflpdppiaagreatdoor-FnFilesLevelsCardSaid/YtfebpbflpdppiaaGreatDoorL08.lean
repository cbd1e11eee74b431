/- PunchHole of bitFiler · link of bitFiler; a filer that is dead · dumpDirty of bitFiler. -/
import Derived.Test.YtfebpbflpdppiaaGreatDoorL07
namespace Go.Proofs.YtfebpbflpdppiaaGreatDoor
open Go Go.Sl
set_option maxRecDepth 100000
/-- a page is made one of zeros -/
def BP.fresh (p : BP) (b xb db : Nat) : BP := ⟨⟨p.z.idx, b, p.z.born⟩, db, .pointer (some ⟨xb, 0, none⟩), none, none, true⟩
def zpag (c : Cn) (i : Nat) : Cn := fun j => if j / 4096 = i then 0 else c j
def don (d : Nat → Bool) (i : Nat) : Nat → Bool := fun j => decide (j = i) || d j
theorem pgl_zpag (c : Cn) (i : Nat) : u8s (pgl (zpag c i) i) = List.replicate 4096 (.int .u8 0) := pgl_zero fun k hk => by
  unfold zpag
  rw [if_pos hk]
theorem pgl_zpag_ne {c : Cn} {i k : Nat} (h : k ≠ i) : pgl (zpag c i) k = pgl c k := pgl_congr fun j hj => by
  unfold zpag
  rw [if_neg (by omega)]
theorem map_fresh {α : Type} (f : BP → α) (l1 l2 : List BP) (p q : BP) (hf : f q = f p) : (l1 ++ q :: l2).map f = (l1 ++ p :: l2).map f := by simp [hf]
theorem BOK.fresh {cb c : Cn} {s k b xb db : Nat} {d : Nat → Bool} {l1 l2 : List BP} {p : BP} (h : BOK cb c s d (l1 ++ p :: l2) k) : BOK cb (zpag c p.z.idx) s (don d p.z.idx) (l1 ++ p.fresh b xb db :: l2) k := by
  have h1 := h.wetted (c' := zpag c p.z.idx) (d' := don d p.z.idx) (by simp [don]) (fun j hj => by simp [don, hj]) (fun i hi => by unfold zpag; rw [if_neg hi])
  refine ⟨by rw [map_fresh (·.z.idx) _ _ p (p.fresh b xb db) rfl]; exact h.nd, by rw [map_fresh (·.z.born) _ _ p (p.fresh b xb db) rfl]; exact h.nb, ?_, ?_, ?_, ?_, h1.cb, ?_⟩
  all_goals first
    | (intro q hq
       rcases List.mem_append.1 hq with hq | hq
       · first | exact h1.lt q (List.mem_append_left _ hq) | exact h1.bd q (List.mem_append_left _ hq) | exact h1.dd q (List.mem_append_left _ hq) | exact h1.pn q (List.mem_append_left _ hq)
       · rcases List.mem_cons.1 hq with rfl | hq
         · first | exact h.lt p (by simp) | exact h.bd p (by simp) | exact (by simp [BP.fresh, don]) | exact ⟨rfl, rfl⟩
         · first | exact h1.lt q (List.mem_append_right _ (List.mem_cons_of_mem _ hq)) | exact h1.bd q (List.mem_append_right _ (List.mem_cons_of_mem _ hq)) | exact h1.dd q (List.mem_append_right _ (List.mem_cons_of_mem _ hq)) | exact h1.pn q (List.mem_append_right _ (List.mem_cons_of_mem _ hq)))
    | (intro j hj
       obtain ⟨q, hq, rfl⟩ := h1.dn j hj
       rcases mem_wet hq with rfl | hq
       · exact ⟨p.fresh b xb db, by simp, rfl⟩
       · rcases List.mem_append.1 hq with hq | hq
         · exact ⟨q, List.mem_append_left _ hq, rfl⟩
         · exact ⟨q, List.mem_append_right _ (List.mem_cons_of_mem _ hq), rfl⟩)
theorem BOK.zeroed {cb c : Cn} {s k i b xb db : Nat} {d : Nat → Bool} {l : List BP} (h : BOK cb c s d l k) (hn : ∀ q ∈ l, q.z.idx ≠ i) (hs : i * 4096 < s) : BOK cb (zpag c i) s (don d i) (l ++ [⟨⟨i, b, k⟩, db, .pointer (some ⟨xb, 0, none⟩), none, none, true⟩]) (k + 1) := by
  have hu := h.under hn
  have h1 := h.more (p := ⟨⟨i, b, k⟩, db, .pointer (some ⟨xb, 0, none⟩), none, none, d i⟩) hn rfl hs rfl ⟨rfl, rfl⟩
  exact (h1.wetted (l2 := []) (c' := zpag c i) (d' := don d i) (by simp [don]) (fun j hj => by simp only [don]; rw [decide_eq_false hj]; rfl) (fun j hj => by unfold zpag; rw [if_neg hj]))
theorem bme_mod (l1 l2 : List BP) (p : BP) (b xb db : Nat) : (bme (l1 ++ p :: l2)).modify (0 + l1.length) (fun e => { e with val := .pointer (some ⟨b, 0, none⟩) }) = bme (l1 ++ p.fresh b xb db :: l2) := by
  unfold bme
  induction l1 with
  | nil => rfl
  | cons q l1 ih =>
    simp only [List.cons_append, List.map_cons, List.length_cons]
    rw [show 0 + (l1.length + 1) = (0 + l1.length) + 1 from by omega, List.modify_succ_cons, ih]
attribute [local irreducible] wpList Code.wp Exit.then Exit.inBlock bodyPost RunS RunV G St Ct Sat Ent At Rd GQ QL wpAny wpOp wpQuiet slP Sl.ex sep
attribute [local irreducible] zf memf pgl rng ov cutC zc mapO rdd bme
section
variable {bb s : Nat} {cb : Cn} {c : Cn} {d : Nat → Bool} {pv : Value}
set_option maxHeartbeats 4000000 in
theorem bPunch_c (off n : Nat) (hb : off + n ≤ s) (hsz : s ≤ 900000000000) :
    Ct Tryz.prog 119 #[.pointer (some ⟨bb, 0, none⟩), .int .i64 (off : Nat), .int .i64 (n : Nat)] [bf bb pv cb c s d] (fun v B => ∃ c' d', v = .nilIface ∧ B = [bf bb pv cb c' s d']) nev := by
  refine Ct.of Tryz.func119 rfl Tryz.ntmps119 rfl fun m F => ?_
  refine bf_open fun mb l kk hok => ?_
  repeat (first | refine wZ ?_ | intro b)
  refine c_mid (α := Unit) (fun _ => [(0, .pointer (some ⟨bb, 0, none⟩)), (1, .int .i64 (off : Nat)), (2, .int .i64 (n : Nat)), (6, .nilIface), (7, .int .i64 (pgn off : Nat))]) (fun _ => blk bb (cl (bcells pv mb s) 180) :: blk mb (mapO (bme l) kk) :: bpgs c l :: F) (fun _ => True) ?_ ?_
  · refine c_cond rfl (fun h => ?_) (fun h => ?_)
    · simp only [Bool.not_eq_true', decide_eq_false_iff_not] at h
      repeat (first | refine wZ ?_ | intro b)
      have e1 : off / 4096 + 1 = pgn off := by unfold pgn; omega
      rw [e1]
      exact at_intro () trivial ⟨rfl, rfl, rfl, rfl, rfl, trivial⟩ (Ent.refl _)
    · simp only [Bool.not_eq_false', decide_eq_true_eq] at h
      repeat (first | refine wZ ?_ | intro b)
      have e1 : off / 4096 = pgn off := by unfold pgn; omega
      rw [e1]
      exact at_intro () trivial ⟨rfl, rfl, rfl, rfl, rfl, trivial⟩ (Ent.refl _)
  rintro _ _
  repeat (first | refine wZ ?_ | intro b)
  refine c_mid (α := Int) (fun y => [(0, .pointer (some ⟨bb, 0, none⟩)), (6, .nilIface), (7, .int .i64 (pgn off : Nat)), (8, .int .i64 y)]) (fun _ => blk bb (cl (bcells pv mb s) 180) :: blk mb (mapO (bme l) kk) :: bpgs c l :: F) (fun y => y ≤ ((off : Int) + ((n : Int) - 1)) / 4096) ?_ ?_
  · refine c_cond rfl (fun h => ?_) (fun h => ?_)
    · repeat (first | refine wZ ?_ | intro b)
      exact at_intro (((off : Int) + ((n : Int) - 1)) / 4096 - 1) (by omega) ⟨rfl, rfl, rfl, rfl, trivial⟩ (Ent.refl _)
    · repeat (first | refine wZ ?_ | intro b)
      exact at_intro (((off : Int) + ((n : Int) - 1)) / 4096) (by omega) ⟨rfl, rfl, rfl, rfl, trivial⟩ (Ent.refl _)
  rintro y1 hy1
  repeat (first | refine wZ ?_ | intro b)
  refine c_mid (α := Int) (fun y => [(0, .pointer (some ⟨bb, 0, none⟩)), (6, .nilIface), (7, .int .i64 (pgn off : Nat)), (8, .int .i64 y)]) (fun _ => blk bb (cl (bcells pv mb s) 180) :: blk mb (mapO (bme l) kk) :: bpgs c l :: F) (fun y => y ≤ ((off : Int) + ((n : Int) - 1)) / 4096) ?_ ?_
  · refine c_cond rfl (fun h => ?_) (fun h => ?_)
    · have h := of_decide_eq_true h
      repeat (first | refine wZ ?_ | intro b)
      exact at_intro _ (by omega) ⟨rfl, rfl, rfl, rfl, trivial⟩ (Ent.refl _)
    · repeat (first | refine wZ ?_ | intro b)
      exact at_intro y1 hy1 ⟨rfl, rfl, rfl, rfl, trivial⟩ (Ent.refl _)
  rintro y hy
  repeat (first | refine wZ ?_ | intro b)
  refine c_loop (α := Nat × Cn × (Nat → Bool) × List BP × Nat) (fun z => [(0, .pointer (some ⟨bb, 0, none⟩)), (6, .nilIface), (8, .int .i64 y), (10, .int .i64 (z.1 : Nat))])
    (fun z => blk bb (cl (bcells pv mb s) 180) :: blk mb (mapO (bme z.2.2.2.1) z.2.2.2.2) :: bpgs z.2.1 z.2.2.2.1 :: F) (fun z => z.1 ≤ 900000000000 ∧ BOK cb z.2.1 s z.2.2.1 z.2.2.2.1 z.2.2.2.2) (fun z => (y + 1 - (z.1 : Int)).toNat) (pgn off, c, d, l, kk)
    ⟨by dsimp only; unfold pgn; omega, hok⟩ (by exact ⟨rfl, rfl, rfl, rfl, trivial⟩) (Ent.refl _) ?_
  clear hok
  rintro ⟨i, c, d, l, kk⟩ ⟨hi, hok⟩
  dsimp only at hi hok ⊢
  repeat (first | refine wZ ?_ | intro b)
  refine c_cond rfl (fun h => ?_) (fun h => ?_)
  rotate_left
  · repeat (first | refine wZ ?_ | intro b)
    exact e_ret1 _ rfl rfl ⟨c, d, rfl, rfl⟩ (bf_shut hok)
  have h := of_decide_eq_true h
  have his : i * 4096 < s := by omega
  repeat (first | refine wZ ?_ | intro b)
  refine l_plain rfl ?_
  apply s_val rfl rfl
  · exact RunS.v (r_build (cells := #[.pointer none, .pointer none, .pointer none, .slice none 0 0, .bool false]) rfl (by kernel_rfl))
  repeat (first | refine wZ ?_ | intro b)
  refine l_plain rfl (s_call rfl rfl zzGet_c [] rfl ?_ (fun _ _ h => h.elim))
  rintro _ _ ⟨xb, db2, rfl, rfl⟩
  repeat (first | refine wZ ?_ | intro b)
  rcases bfind l i 0 with ⟨l1, p, l2, rfl, hpi, hm⟩ | ⟨hn2, hm⟩
  · refine l_plain rfl (s_mapSet 4 rfl rfl rfl rfl hm ?_)
    subst hpi
    rw [bme_mod l1 l2 p b xb db2]
    repeat (first | refine wZ ?_ | intro b)
    refine at_intro (p.z.idx + 1, zpag c p.z.idx, don d p.z.idx, l1 ++ p.fresh b xb db2 :: l2, kk) ⟨⟨by dsimp only; omega, hok.fresh⟩, by dsimp only; omega⟩ ⟨rfl, rfl, rfl, rfl, trivial⟩ ?_
    dsimp only
    have hput := bpgs_put (L := F) (zpag c p.z.idx) l1 l2 (p.fresh b xb db2)
    simp only [bpc, BP.fresh, pgl_zpag] at hput
    have hoth : bpgs c (l1 ++ l2) = bpgs (zpag c p.z.idx) (l1 ++ l2) := bpgs_congr fun q hq => (pgl_zpag_ne (hok.other q hq)).symm
    refine Ent.trans (arr_ent 1 [4, 0, 0, 1, 1] _) (Ent.cons (Ent.cons (Ent.trans (Ent.cons (Ent.cons (bpgs_take c l1 l2 p))) (Ent.trans (arr_ent 2 [0, 0] _ |>.trans ?_) hput))))
    rw [← hoth]
    exact Ent.refl _
  · refine l_plain rfl (s_mapPut 4 rfl rfl rfl rfl hm ?_)
    repeat (first | refine wZ ?_ | intro b)
    refine at_intro (i + 1, zpag c i, don d i, l ++ [⟨⟨i, b, kk⟩, db2, .pointer (some ⟨xb, 0, none⟩), none, none, true⟩], kk + 1) ⟨⟨by dsimp only; omega, hok.zeroed hn2 his⟩, by dsimp only; omega⟩ ⟨rfl, rfl, rfl, rfl, trivial⟩ ?_
    dsimp only
    have hput := bpgs_put (L := F) (zpag c i) l [] ⟨⟨i, b, kk⟩, db2, .pointer (some ⟨xb, 0, none⟩), none, none, true⟩
    rw [List.append_nil] at hput
    simp only [bpc, pgl_zpag] at hput
    have hoth : bpgs c l = bpgs (zpag c i) l := bpgs_congr fun q hq => (pgl_zpag_ne (hn2 q hq)).symm
    rw [bme_append, bme_one]
    refine Ent.trans (arr_ent 1 [4, 0, 0, 1, 1] _) (Ent.cons (Ent.cons (Ent.trans ?_ hput)))
    rw [← hoth]
    exact Ent.refl _
end
end Go.Proofs.YtfebpbflpdppiaaGreatDoor
namespace Go.Proofs.YtfebpbflpdppiaaGreatDoor
open Go Go.Sl
set_option maxRecDepth 100000
/-- a page, with its links and whether it is to be written -/
def pgx (l : List BP) (u v w : Nat → Bool) (p : BP) : BP := { p with pv := if u p.z.idx then bq l (p.z.idx - 1) else none, nx := if v p.z.idx then bq l (p.z.idx + 1) else none, dirty := w p.z.idx }
def pl (l : List BP) (u v w : Nat → Bool) : List BP := l.map (pgx l u v w)
def up (u : Nat → Bool) (i : Nat) (x : Bool) : Nat → Bool := fun j => if j = i then x else u j
theorem up_ne {u : Nat → Bool} {i j : Nat} {x : Bool} (h : j ≠ i) : up u i x j = u j := if_neg h
theorem up_eq (u : Nat → Bool) (i : Nat) (x : Bool) : up u i x i = x := if_pos rfl
theorem bme_pl (l : List BP) (u v w : Nat → Bool) : bme (pl l u v w) = bme l := by
  unfold bme pl
  rw [List.map_map, List.map_map, List.map_map]
  rfl
theorem pl_init {cb c : Cn} {s k : Nat} {d : Nat → Bool} {l : List BP} (h : BOK cb c s d l k) : pl l (fun _ => false) (fun _ => false) d = l := by
  unfold pl
  rw [List.map_congr_left (g := id)]
  · simp
  · intro p hp
    have h1 := h.pn p hp
    have h2 := h.dd p hp
    obtain ⟨z, db, pd, pv, nx, dirty⟩ := p
    simp only at h1 h2
    obtain ⟨rfl, rfl⟩ := h1
    simp [pgx, h2]
theorem bq_mem {l : List BP} (hnd : (l.map (·.z.idx)).Nodup) {p : BP} (hp : p ∈ l) : bq l p.z.idx = some p.z.ad := by
  cases h : bq l p.z.idx with
  | none => exact absurd rfl (bq_none h p hp)
  | some a =>
    obtain ⟨l1, q, l2, rfl, hi, rfl⟩ := bq_some h
    have : q = p := by
      rw [List.map_append, List.map_cons] at hnd
      have h2 := List.perm_middle.nodup_iff.1 hnd
      rw [List.nodup_cons] at h2
      have hq : ∀ x ∈ l1 ++ l2, x.z.idx ≠ q.z.idx := fun x hx e => h2.1 (by rw [← e, ← List.map_append]; exact List.mem_map_of_mem (f := fun x : BP => x.z.idx) hx)
      rcases List.mem_append.1 hp with h3 | h3
      · exact absurd hi.symm (hq p (List.mem_append_left _ h3))
      · rcases List.mem_cons.1 h3 with h3 | h3
        · exact h3.symm
        · exact absurd hi.symm (hq p (List.mem_append_right _ h3))
    rw [this]
theorem oth_ne {l1 l2 : List BP} {p : BP} (hnd : ((l1 ++ p :: l2).map (·.z.idx)).Nodup) : ∀ q ∈ l1 ++ l2, q.z.idx ≠ p.z.idx := fun q hq e => by
  rw [List.map_append, List.map_cons] at hnd
  have h2 := List.perm_middle.nodup_iff.1 hnd
  rw [List.nodup_cons] at h2
  exact h2.1 (by rw [← e, ← List.map_append]; exact List.mem_map_of_mem (f := fun x : BP => x.z.idx) hq)
section
variable {L : List HP}
theorem Ent.exE {α : Type} {A : α → HP} {L' : List HP} (h : ∀ x, Ent (A x :: L) L') : Ent (Sl.ex A :: L) L' := fun H hs => let ⟨x, hx⟩ := hs.ex; h x H hx
theorem Ent.alsoE {p : Prop} {A : HP} {L' : List HP} (h : p → Ent (A :: L) L') : Ent (Sl.also p A :: L) L' := fun H hs => let ⟨hp, hx⟩ := hs.also; h hp H hx
theorem pl_take (c : Cn) {l l1 l2 : List BP} {p : BP} (hl : l = l1 ++ p :: l2) (u v w : Nat → Bool) : Ent (bpgs c (pl l u v w) :: L) (blk p.z.blk (cl (bpc (pgx l u v w p)) 194) :: blk p.db (cl (u8s (pgl c p.z.idx)) 5) :: bpgs c ((l1 ++ l2).map (pgx l u v w)) :: L) := by
  have h := bpgs_take (L := L) c (l1.map (pgx l u v w)) (l2.map (pgx l u v w)) (pgx l u v w p)
  have e1 : pl l u v w = l1.map (pgx l u v w) ++ pgx l u v w p :: l2.map (pgx l u v w) := by
    unfold pl
    conv => lhs; arg 2; rw [hl]
    simp
  rw [e1, List.map_append]
  exact h
theorem pl_put (c : Cn) {l l1 l2 : List BP} {p : BP} (hl : l = l1 ++ p :: l2) (hnd : (l.map (·.z.idx)).Nodup) {u v w u' v' w' : Nat → Bool} (hu : ∀ j, j ≠ p.z.idx → u' j = u j) (hv : ∀ j, j ≠ p.z.idx → v' j = v j) (hw : ∀ j, j ≠ p.z.idx → w' j = w j) :
    Ent (blk p.z.blk (cl (bpc (pgx l u' v' w' p)) 194) :: blk p.db (cl (u8s (pgl c p.z.idx)) 5) :: bpgs c ((l1 ++ l2).map (pgx l u v w)) :: L) (bpgs c (pl l u' v' w') :: L) := by
  have h := bpgs_put (L := L) c (l1.map (pgx l u' v' w')) (l2.map (pgx l u' v' w')) (pgx l u' v' w' p)
  have e1 : pl l u' v' w' = l1.map (pgx l u' v' w') ++ pgx l u' v' w' p :: l2.map (pgx l u' v' w') := by
    unfold pl
    conv => lhs; arg 2; rw [hl]
    simp
  have e2 : (l1 ++ l2).map (pgx l u v w) = (l1 ++ l2).map (pgx l u' v' w') := List.map_congr_left fun q hq => by
    have := oth_ne (hl ▸ hnd) q hq
    unfold pgx
    rw [hu _ this, hv _ this, hw _ this]
  rw [e1, e2, List.map_append]
  exact h
end
/-- what is left of a level that is ended -/
structure BX (l : List BP) (k : Nat) : Prop where
  nb : (l.map (·.z.born)).Nodup
  lt : ∀ p ∈ l, p.z.born < k
def bx (bb : Nat) (pv : Value) (s : Nat) : HP := ex fun x : Nat × Cn × List BP × Nat => also (BX x.2.2.1 x.2.2.2) (sep [blk bb (cl (bcells pv x.1 s) 180), blk x.1 (mapO (bme x.2.2.1) x.2.2.2), bpgs x.2.1 x.2.2.1])
section
variable {n : Nat} {ds : List Deferred} {σ : Env} {m : Amb} {L R : List HP}
theorem bx_open {bb s : Nat} {pv : Value} {Φ : Act → World → Prop} (h : ∀ mb c l k, BX l k → G n ds σ m (blk bb (cl (bcells pv mb s) 180) :: blk mb (mapO (bme l) k) :: bpgs c l :: L) Φ) : G n ds σ m (bx bb pv s :: L) Φ :=
  G.exE fun x => G.alsoE fun hp => G.ent (sep_open _ _) (h x.1 x.2.1 x.2.2.1 x.2.2.2 hp)
theorem bx_shut {bb s mb k : Nat} {pv : Value} {c : Cn} {l : List BP} (h : BX l k) : Ent (blk bb (cl (bcells pv mb s) 180) :: blk mb (mapO (bme l) k) :: bpgs c l :: L) (bx bb pv s :: L) :=
  (sep_shut [_, _, _] L).trans ((also_shut h _ L).trans (ex_shut (fun x : Nat × Cn × List BP × Nat => also (BX x.2.2.1 x.2.2.2) (sep [blk bb (cl (bcells pv x.1 s) 180), blk x.1 (mapO (bme x.2.2.1) x.2.2.2), bpgs x.2.1 x.2.2.1])) (mb, c, l, k) L))
end
theorem BOK.bx {cb c : Cn} {s k : Nat} {d : Nat → Bool} {l : List BP} (h : BOK cb c s d l k) : BX l k := ⟨h.nb, h.lt⟩
theorem BX.pl {l : List BP} {k : Nat} (h : BX l k) (u v w : Nat → Bool) : BX (pl l u v w) k := by
  refine ⟨?_, fun p hp => ?_⟩
  · have := h.nb
    unfold Go.Proofs.YtfebpbflpdppiaaGreatDoor.pl
    rw [List.map_map]
    exact this
  · unfold Go.Proofs.YtfebpbflpdppiaaGreatDoor.pl at hp
    rw [List.mem_map] at hp
    obtain ⟨q, hq, rfl⟩ := hp
    exact h.lt q hq
theorem bxnb {k : Nat} {l : List BP} (h : BX l k) : ((bme l).map (·.born)).Nodup := by
  have := h.nb
  simpa [bme, Function.comp_def, ZP.me] using this
theorem bf_bx {bb s : Nat} {pv : Value} {cb c : Cn} {d : Nat → Bool} {L : List HP} : Ent (bf bb pv cb c s d :: L) (bx bb pv s :: L) :=
  Ent.exE fun x => Ent.alsoE fun hp => (also_shut hp.bx _ L).trans (ex_shut (fun x : Nat × Cn × List BP × Nat => also (BX x.2.2.1 x.2.2.2) (sep [blk bb (cl (bcells pv x.1 s) 180), blk x.1 (mapO (bme x.2.2.1) x.2.2.2), bpgs x.2.1 x.2.2.1])) (x.1, c, x.2.1, x.2.2) L)
attribute [local irreducible] wpList Code.wp Exit.then Exit.inBlock bodyPost RunS RunV G St Ct Sat Ent At Rd GQ QL wpAny wpOp wpQuiet slP Sl.ex sep
attribute [local irreducible] zf memf pgl rng ov cutC zc mapO rdd bme
section
variable {bb s : Nat} {pv : Value} {cb c : Cn} {d : Nat → Bool}
theorem xSize_c : Ct Tryz.prog 116 #[.pointer (some ⟨bb, 0, none⟩)] [bx bb pv s] (fun v B => v = .tuple #[.int .i64 (s : Nat), .nilIface] ∧ B = [bx bb pv s]) nev := by
  refine Ct.of Tryz.func116 rfl Tryz.ntmps116 rfl fun m F => ?_
  refine bx_open fun mb c l k hok => ?_
  repeat (first | refine wZ ?_ | intro b)
  exact e_ret2 _ rfl rfl rfl ⟨rfl, rfl⟩ (bx_shut hok)
theorem xfree_c : Ct Tryz.prog 112 #[.pointer (some ⟨bb, 0, none⟩)] [bx bb pv s] (fun v B => v = .tuple #[] ∧ B = [bx bb pv s]) nev := by
  refine Ct.of Tryz.func112 rfl Tryz.ntmps112 rfl fun m F => ?_
  refine bx_open fun mb c l k hok => ?_
  repeat (first | refine wZ ?_ | intro b)
  refine l_plain rfl (s_range 1 rfl rfl rfl ?_)
  intro it
  repeat (first | refine wZ ?_ | intro b)
  refine c_loop (α := Array Nat) (fun _ => [(0, .pointer (some ⟨bb, 0, none⟩)), (8, .pointer (some ⟨it, 0, none⟩))])
    (fun y => blk it (.mapIter (some mb) k y k) :: blk bb (cl (bcells pv mb s) 180) :: blk mb (mapO (bme l) k) :: bpgs c l :: F) (fun y => True) (fun y => bunseen l y) #[]
    trivial (by exact ⟨rfl, rfl, trivial⟩) (Ent.refl _) ?_
  intro seen _
  repeat (first | refine wZ ?_ | intro b)
  refine l_plain rfl (s_next [0, 1] rfl rfl (fun e he => ?_) (Nat.le_refl _) rfl (fun hall => ?_) (fun e he hns => ?_))
  · obtain ⟨p, hp, rfl⟩ := bme_mem he
    exact hok.lt p hp
  · repeat (first | refine wZ ?_ | intro b)
    exact e_nor0 _ rfl ⟨rfl, rfl⟩ (Ent.trans (arr_ent 1 [2, 1, 1] _) (bx_shut hok))
  · obtain ⟨p, hp, rfl⟩ := bme_mem he
    repeat (first | refine wZ ?_ | intro b)
    refine l_plain rfl ?_
    apply s_val rfl rfl
    · exact r_entry 0 1 rfl rfl rfl (mem_bme hp) (bxnb hok)
    repeat (first | refine wZ ?_ | intro b)
    obtain ⟨l1, l2, rfl⟩ := List.append_of_mem hp
    refine G.ent (Ent.trans (arr_ent 0 [0, 1, 0] _) (Ent.cons (Ent.cons (Ent.cons (bpgs_take c l1 l2 p))))) ?_
    unfold bpc
    repeat (first | refine wZ ?_ | intro b)
    refine l_plain rfl (s_call rfl rfl (zzPut_c _) [] rfl ?_ (fun _ _ h => h.elim))
    rintro _ _ ⟨rfl, rfl⟩
    repeat (first | refine wZ ?_ | intro b)
    refine at_intro (seen.push p.z.born) ⟨trivial, bunseen_lt hns⟩ ⟨rfl, rfl, trivial⟩ ?_
    exact Ent.cons (Ent.cons (Ent.cons (bpgs_put c l1 l2 p)))
theorem link_c (mb k : Nat) (l : List BP) (hib : ∀ p ∈ l, p.z.idx ≤ 1000000000000) (hnd : (l.map (·.z.idx)).Nodup) (hx : BX l k) (w : Nat → Bool) : Ct Tryz.prog 137 #[.pointer (some ⟨bb, 0, none⟩)] [blk bb (cl (bcells pv mb s) 180), blk mb (mapO (bme l) k), bpgs c (pl l (fun _ => false) (fun _ => false) w)]
    (fun x B => ∃ u v, (u 0 = false ∧ ∀ j, u (j + 1) = true → v j = true) ∧ x = .tuple #[] ∧ B = [blk bb (cl (bcells pv mb s) 180), blk mb (mapO (bme l) k), bpgs c (pl l u v w)]) nev := by
  refine Ct.of Tryz.func137 rfl Tryz.ntmps137 rfl fun m F => ?_
  repeat (first | refine wZ ?_ | intro b)
  refine l_plain rfl (s_range 1 rfl rfl rfl ?_)
  intro it
  repeat (first | refine wZ ?_ | intro b)
  refine c_loop (α := Array Nat × (Nat → Bool) × (Nat → Bool)) (fun _ => [(0, .pointer (some ⟨bb, 0, none⟩)), (10, .pointer (some ⟨it, 0, none⟩))])
    (fun y => blk it (.mapIter (some mb) k y.1 k) :: blk bb (cl (bcells pv mb s) 180) :: blk mb (mapO (bme l) k) :: bpgs c (pl l y.2.1 y.2.2 w) :: F) (fun y => y.2.1 0 = false ∧ ∀ j, y.2.1 (j + 1) = true → y.2.2 j = true) (fun y => bunseen l y.1) (#[], fun _ => false, fun _ => false)
    ⟨rfl, fun _ h => by cases h⟩ (by exact ⟨rfl, rfl, trivial⟩) (Ent.refl _) ?_
  rintro ⟨seen, u, v⟩ ⟨hu, huv⟩
  dsimp only at hu huv ⊢
  repeat (first | refine wZ ?_ | intro b)
  refine l_plain rfl (s_next [0, 1] rfl rfl (fun e he => ?_) (Nat.le_refl _) rfl (fun hall => ?_) (fun e he hns => ?_))
  · obtain ⟨p, hp, rfl⟩ := bme_mem he
    exact hx.lt p hp
  · repeat (first | refine wZ ?_ | intro b)
    exact e_nor0 _ rfl ⟨u, v, ⟨hu, huv⟩, rfl, rfl⟩ (arr_ent 1 [2, 1, 1] _)
  obtain ⟨p, hp, rfl⟩ := bme_mem he
  have hbl : bunseen l (seen.push p.z.born) < bunseen l seen := by
    obtain ⟨l1, l2, hl⟩ := List.append_of_mem hp
    rw [hl]
    exact bunseen_lt hns
  repeat (first | refine wZ ?_ | intro b)
  refine l_plain rfl ?_
  apply s_val rfl rfl
  · exact r_entry 0 1 rfl rfl rfl (mem_bme hp) (bxnb hx)
  repeat (first | refine wZ ?_ | intro b)
  refine l_plain rfl ?_
  apply s_val rfl rfl
  · exact RunS.v (r_incN (a := p.z.idx) rfl rfl (by have := hib p hp; omega))
  have hend : ∀ u' v' : Nat → Bool, u' 0 = false → Ent (blk it (.mapIter (some mb) k (seen.push p.z.me.born) k) :: blk mb (mapO (bme l) k) :: blk bb (cl (bcells pv mb s) 180) :: bpgs c (pl l u' v' w) :: F) (blk it (.mapIter (some mb) k (seen.push p.z.me.born) k) :: blk bb (cl (bcells pv mb s) 180) :: blk mb (mapO (bme l) k) :: bpgs c (pl l u' v' w) :: F) := fun u' v' _ => arr_ent 0 [0, 1] _
  rcases bfind l (p.z.idx + 1) 0 with ⟨l1, q, l2, hl, hqi, hm⟩ | ⟨hn2, hm⟩
  rotate_left
  · refine l_plain rfl ?_
    apply s_val rfl rfl
    · exact r_lookO 1 rfl rfl rfl hm
    repeat (first | refine wZ ?_ | intro b)
    exact at_intro (seen.push p.z.born, u, v) ⟨⟨hu, huv⟩, hbl⟩ ⟨rfl, rfl, trivial⟩ (hend u v hu)
  refine l_plain rfl ?_
  apply s_val rfl rfl
  · exact r_lookOS 1 rfl rfl rfl hm
  refine G.ent (Ent.cons (Ent.cons (Ent.cons (pl_take c hl u v w)))) ?_
  rw [show bpc (pgx l u v w q) = [.pointer (if u q.z.idx then bq l (q.z.idx - 1) else none), .pointer (if v q.z.idx then bq l (q.z.idx + 1) else none), q.pd, .slice (some ⟨q.db, 0, none⟩) 4096 4096, .bool (w q.z.idx)] from rfl]
  repeat (first | refine wZ ?_ | intro b)
  refine c_cond rfl (fun h => ?_) (fun h => ?_)
  · repeat (first | refine wZ ?_ | intro b)
    exact at_intro (seen.push p.z.born, u, v) ⟨⟨hu, huv⟩, hbl⟩ ⟨rfl, rfl, trivial⟩ (Ent.trans (arr_ent 0 [0, 1] _) (Ent.cons (Ent.cons (Ent.cons (pl_put c hl hnd (fun _ _ => rfl) (fun _ _ => rfl) (fun _ _ => rfl))))))
  repeat (first | refine wZ ?_ | intro b)
  have h1 : Ent (blk q.z.blk (cl ([.pointer (if u q.z.idx then bq l (q.z.idx - 1) else none), .pointer (if v q.z.idx then bq l (q.z.idx + 1) else none), q.pd, .slice (some ⟨q.db, 0, none⟩) 4096 4096, .bool (w q.z.idx)].set (0 + 0) (.pointer (some p.z.ad))) 194) :: blk q.db (cl (u8s (pgl c q.z.idx)) 5) :: bpgs c ((l1 ++ l2).map (pgx l u v w)) :: F) (bpgs c (pl l (up u q.z.idx true) v w) :: F) := by
    have h2 := pl_put (L := F) c hl hnd (u := u) (v := v) (w := w) (u' := up u q.z.idx true) (v' := v) (w' := w) (fun j hj => up_ne hj) (fun _ _ => rfl) (fun _ _ => rfl)
    rw [show bpc (pgx l (up u q.z.idx true) v w q) = [.pointer (if up u q.z.idx true q.z.idx then bq l (q.z.idx - 1) else none), .pointer (if v q.z.idx then bq l (q.z.idx + 1) else none), q.pd, .slice (some ⟨q.db, 0, none⟩) 4096 4096, .bool (w q.z.idx)] from rfl, up_eq, if_pos rfl, show q.z.idx - 1 = p.z.idx from by omega, bq_mem hnd hp] at h2
    exact h2
  obtain ⟨m1, m2, hml⟩ := List.append_of_mem hp
  refine G.ent (Ent.trans (arr_ent 0 [1, 1, 1, 0] _) (Ent.cons (Ent.cons (Ent.cons (h1.trans (pl_take c hml (up u q.z.idx true) v w)))))) ?_
  rw [show bpc (pgx l (up u q.z.idx true) v w p) = [.pointer (if up u q.z.idx true p.z.idx then bq l (p.z.idx - 1) else none), .pointer (if v p.z.idx then bq l (p.z.idx + 1) else none), p.pd, .slice (some ⟨p.db, 0, none⟩) 4096 4096, .bool (w p.z.idx)] from rfl]
  repeat (first | refine wZ ?_ | intro b)
  have h3 : Ent (blk p.z.blk (cl ([.pointer (if up u q.z.idx true p.z.idx then bq l (p.z.idx - 1) else none), .pointer (if v p.z.idx then bq l (p.z.idx + 1) else none), p.pd, .slice (some ⟨p.db, 0, none⟩) 4096 4096, .bool (w p.z.idx)].set (0 + 1) (.pointer (some q.z.ad))) 194) :: blk p.db (cl (u8s (pgl c p.z.idx)) 5) :: bpgs c ((m1 ++ m2).map (pgx l (up u q.z.idx true) v w)) :: F) (bpgs c (pl l (up u q.z.idx true) (up v p.z.idx true) w) :: F) := by
    have h2 := pl_put (L := F) c hml hnd (u := up u q.z.idx true) (v := v) (w := w) (u' := up u q.z.idx true) (v' := up v p.z.idx true) (w' := w) (fun _ _ => rfl) (fun j hj => up_ne hj) (fun _ _ => rfl)
    rw [show bpc (pgx l (up u q.z.idx true) (up v p.z.idx true) w p) = [.pointer (if up u q.z.idx true p.z.idx then bq l (p.z.idx - 1) else none), .pointer (if up v p.z.idx true p.z.idx then bq l (p.z.idx + 1) else none), p.pd, .slice (some ⟨p.db, 0, none⟩) 4096 4096, .bool (w p.z.idx)] from rfl, up_eq v, if_pos rfl, ← hqi, bq_mem hnd (by rw [hl]; simp : q ∈ l)] at h2
    exact h2
  refine at_intro (seen.push p.z.born, up u q.z.idx true, up v p.z.idx true) ⟨⟨by dsimp only; rw [up_ne (by omega)]; exact hu, fun j hj => ?_⟩, hbl⟩ ⟨rfl, rfl, trivial⟩ ?_
  · dsimp only at hj ⊢
    by_cases hjp : j = p.z.idx
    · rw [hjp, up_eq]
    · rw [up_ne hjp]
      rw [up_ne (by omega)] at hj
      exact huv j hj
  exact Ent.trans (arr_ent 0 [1, 2, 1, 0] _) (Ent.cons (Ent.cons (Ent.cons h3)))
end
end Go.Proofs.YtfebpbflpdppiaaGreatDoor
namespace Go.Proofs.YtfebpbflpdppiaaGreatDoor
open Go Go.Sl
set_option maxRecDepth 100000
/-- which pages are still to be written -/
def wd (d : Nat → Bool) (done : List Nat) : Nat → Bool := fun j => d j && !done.contains j
theorem wd_nil (d : Nat → Bool) : wd d [] = d := by
  funext j
  simp [wd]
theorem wd_add {d : Nat → Bool} {done : List Nat} {i j : Nat} : wd d (done ++ [i]) j = (wd d done j && decide (j ≠ i)) := by
  rw [Bool.eq_iff_iff]
  simp [wd, and_assoc]
theorem wd_t {d : Nat → Bool} {done : List Nat} {j : Nat} : wd d done j = true ↔ d j = true ∧ j ∉ done := by
  simp [wd]
def left (l : List BP) (d : Nat → Bool) (done : List Nat) : Nat := l.countP fun p => wd d done p.z.idx
theorem left_lt {l : List BP} {d : Nat → Bool} {done : List Nat} {p : BP} (hp : p ∈ l) (h : wd d done p.z.idx = true) : left l d (done ++ [p.z.idx]) < left l d done := by
  unfold left
  obtain ⟨l1, l2, rfl⟩ := List.append_of_mem hp
  have hm : ∀ l : List BP, l.countP (fun q => wd d (done ++ [p.z.idx]) q.z.idx) ≤ l.countP (fun q => wd d done q.z.idx) := fun l => List.countP_mono_left fun q _ hq => by
    rw [wd_add, Bool.and_eq_true] at hq
    exact hq.1
  have e1 : wd d (done ++ [p.z.idx]) p.z.idx = false := by rw [wd_add]; simp
  simp only [List.countP_append, List.countP_cons, h, e1, if_true, Bool.false_eq_true, if_false]
  have := hm l1
  have := hm l2
  omega
/-- pages are written to a target: either each is laid there, or each is refused -/
def WrC (wv : Value) (TH : List Nat → HP) (ok : Bool) (c : Cn) (d : Nat → Bool) : Prop := ∀ (db : Nat) (done : List Nat) (i : Nat), d i = true → i ∉ done → (∀ j ∈ done, d j = true) →
  MCt Tryz.prog wv "WriteAt" [.slice (some ⟨db, 0, none⟩) 4096 4096, .int .i64 (i * 4096 : Nat)] [TH done, blk db (cl (u8s (pgl c i)) 5)]
    (fun v B => (ok = true ∧ v = .tuple #[.int .i64 4096, .nilIface] ∧ B = [TH (done ++ [i]), blk db (cl (u8s (pgl c i)) 5)]) ∨ (ok = false ∧ ∃ b, v = .tuple #[.int .i64 0, permV b] ∧ B = [TH done, blk db (cl (u8s (pgl c i)) 5)])) nev
theorem nodup_len : ∀ (N : Nat) (l : List Nat), l.Nodup → (∀ x ∈ l, x < N) → l.length ≤ N
  | 0, l, _, h => by
    cases l with
    | nil => simp
    | cons a l => exact absurd (h a (by simp)) (by omega)
  | N + 1, l, hn, h => by
    have h1 := nodup_len N (l.erase N) (hn.erase N) (fun x hx => by
      have h2 := hn.mem_erase_iff.1 hx
      have := h x h2.2
      have := h2.1
      omega)
    rw [List.length_erase] at h1
    split at h1 <;> omega
theorem bq_at {l : List BP} {i : Nat} (h : ∃ p ∈ l, p.z.idx = i) : ∃ q ∈ l, q.z.idx = i ∧ bq l i = some q.z.ad := by
  cases hq : bq l i with
  | none =>
    obtain ⟨p, hp, e⟩ := h
    exact absurd e (bq_none hq p hp)
  | some a =>
    obtain ⟨l1, p, l2, rfl, hi, rfl⟩ := bq_some hq
    exact ⟨p, by simp, hi, rfl⟩
attribute [local irreducible] wpList Code.wp Exit.then Exit.inBlock bodyPost RunS RunV G St Ct Sat Ent At Rd GQ QL wpAny wpOp wpQuiet slP Sl.ex sep
attribute [local irreducible] zf memf pgl rng ov cutC zc mapO rdd bme
section
variable {bb s : Nat} {pv : Value} {cb c : Cn} {d : Nat → Bool} {wv : Value} {TH : List Nat → HP} {ok : Bool}
set_option maxHeartbeats 4000000 in
theorem dump_c (hw : WrC wv TH ok c d) (hwm : ∃ rt u f, wv = .iface rt u ∧ MethP Tryz.prog rt "WriteAt" f) (hsz : s ≤ 900000000000) : Ct Tryz.prog 114 #[.pointer (some ⟨bb, 0, none⟩), wv] [TH [], bf bb pv cb c s d]
    (fun v B => (∃ done : List Nat, done.Nodup ∧ (∀ j, j ∈ done ↔ d j = true) ∧ (ok = true ∨ done = []) ∧ v = .tuple #[.int .i64 (done.length : Nat), .nilIface] ∧ B = [TH done, bx bb pv s]) ∨ (ok = false ∧ ∃ b, v = .tuple #[.int .i64 0, permV b] ∧ B = [TH [], bx bb pv s])) nev := by
  obtain ⟨wt, wu, wf, rfl, hmeth⟩ := hwm
  refine Ct.of Tryz.func114 rfl Tryz.ntmps114 rfl fun m F => ?_
  refine G.ent (arr_ent 0 [1, 0] _) ?_
  refine bf_open fun mb l k hok => ?_
  have hib : ∀ p ∈ l, p.z.idx ≤ 1000000000000 := fun p hp => by have := hok.bd p hp; omega
  have hnd := hok.nd
  have hx := hok.bx
  have hpi := pl_init hok
  rw [show bpgs c l = bpgs c (pl l (fun _ => false) (fun _ => false) d) from by rw [hpi]]
  repeat (first | refine wZ ?_ | intro b)
  refine l_plain rfl (s_call rfl rfl (link_c mb k l hib hnd hx d) [0, 0, 0] rfl ?_ (fun _ _ h => h.elim))
  rintro _ _ ⟨u, v, ⟨hu0, huv⟩, rfl, rfl⟩
  repeat (first | refine wZ ?_ | intro b)
  refine l_plain rfl (s_range 1 rfl rfl rfl ?_)
  intro it
  repeat (first | refine wZ ?_ | intro b)
  refine c_loop (α := Array Nat × List Nat) (fun y => [(0, .pointer (some ⟨bb, 0, none⟩)), (1, .iface wt wu), (4, .int .i64 (y.2.length : Nat)), (5, .nilIface), (16, .pointer (some ⟨it, 0, none⟩))])
    (fun y => blk it (.mapIter (some mb) k y.1 k) :: blk bb (cl (bcells pv mb s) 180) :: blk mb (mapO (bme l) k) :: bpgs c (pl l u v (wd d y.2)) :: TH y.2 :: F)
    (fun y => y.2.Nodup ∧ (∀ j ∈ y.2, d j = true) ∧ (ok = true ∨ y.2 = []) ∧ (∀ p ∈ l, y.1.contains p.z.born = true → wd d y.2 p.z.idx = false)) (fun y => bunseen l y.1) (#[], [])
    ⟨List.nodup_nil, by simp, .inr rfl, fun p _ h => by simp at h⟩ (by exact ⟨rfl, rfl, rfl, rfl, rfl, trivial⟩) (by dsimp only; rw [wd_nil]; exact Ent.refl _) ?_
  rintro ⟨seen, done⟩ ⟨hdn, hdd, hdo, hds⟩
  dsimp only at hdn hdd hdo hds ⊢
  repeat (first | refine wZ ?_ | intro b)
  refine l_plain rfl (s_next [0, 1] rfl rfl (fun e he => ?_) (Nat.le_refl _) rfl (fun hall => ?_) (fun e he hns => ?_))
  · obtain ⟨p, hp, rfl⟩ := bme_mem he
    exact hx.lt p hp
  · repeat (first | refine wZ ?_ | intro b)
    have hfin : ∀ j, j ∈ done ↔ d j = true := fun j => by
      refine ⟨hdd j, fun hj => ?_⟩
      obtain ⟨p, hp, rfl⟩ := hok.dn j hj
      have := hds p hp (hall p.z.me (mem_bme hp))
      cases hc : decide (p.z.idx ∈ done) with
      | true => exact of_decide_eq_true hc
      | false =>
        have h2 := wd_t.2 ⟨hj, of_decide_eq_false hc⟩
        rw [this] at h2
        cases h2
    refine e_ret2 _ rfl rfl rfl (.inl ⟨done, hdn, hfin, hdo, rfl, rfl⟩) ?_
    refine Ent.trans (arr_ent 1 [2, 1, 1] _) ?_
    rw [← bme_pl l u v (wd d done)]
    exact (bx_shut (hx.pl u v (wd d done))).trans (arr_ent 0 [1, 0] _)
  obtain ⟨p, hp, rfl⟩ := bme_mem he
  have hbl : bunseen l (seen.push p.z.born) < bunseen l seen := by
    obtain ⟨l1, l2, hl⟩ := List.append_of_mem hp
    rw [hl]
    exact bunseen_lt hns
  repeat (first | refine wZ ?_ | intro b)
  refine l_plain rfl ?_
  apply s_val rfl rfl
  · exact r_entry 0 1 rfl rfl rfl (mem_bme hp) (bxnb hx)
  repeat (first | refine wZ ?_ | intro b)
  have hdsn : ∀ done2 : List Nat, (∀ j, wd d done j = false → wd d done2 j = false) → wd d done2 p.z.idx = false → ∀ q ∈ l, (seen.push p.z.born).contains q.z.born = true → wd d done2 q.z.idx = false := fun done2 h1 h2 q hq hc => by
    simp only [Array.contains_push, Bool.or_eq_true, beq_iff_eq] at hc
    rcases hc with hc | hc
    · exact h1 _ (hds q hq hc)
    · have : q = p := by
        obtain ⟨l1, l2, hl⟩ := List.append_of_mem hp
        have hnb := hx.nb
        rw [hl, List.map_append, List.map_cons] at hnb
        have h3 := List.perm_middle.nodup_iff.1 hnb
        rw [List.nodup_cons] at h3
        rw [hl] at hq
        rcases List.mem_append.1 hq with h | h
        · exact absurd (by rw [← hc, ← List.map_append]; exact List.mem_map_of_mem (f := fun x : BP => x.z.born) (List.mem_append_left _ h)) h3.1
        · rcases List.mem_cons.1 h with h | h
          · exact h
          · exact absurd (by rw [← hc, ← List.map_append]; exact List.mem_map_of_mem (f := fun x : BP => x.z.born) (List.mem_append_right _ h)) h3.1
      rw [this]
      exact h2
  obtain ⟨l1, l2, hl⟩ := List.append_of_mem hp
  refine G.ent (Ent.trans (arr_ent 0 [0, 1, 0] _) (Ent.cons (Ent.cons (Ent.cons (pl_take c hl u v (wd d done)))))) ?_
  rw [show bpc (pgx l u v (wd d done) p) = [.pointer (if u p.z.idx then bq l (p.z.idx - 1) else none), .pointer (if v p.z.idx then bq l (p.z.idx + 1) else none), p.pd, .slice (some ⟨p.db, 0, none⟩) 4096 4096, .bool (wd d done p.z.idx)] from rfl]
  repeat (first | refine wZ ?_ | intro b)
  refine c_cond rfl (fun h => ?_) (fun h => ?_)
  · repeat (first | refine wZ ?_ | intro b)
    exact at_intro (seen.push p.z.born, done) ⟨⟨hdn, hdd, hdo, hdsn done (fun _ h => h) (by simpa using h)⟩, hbl⟩ ⟨rfl, rfl, rfl, rfl, rfl, trivial⟩ (Ent.cons (Ent.cons (Ent.cons (pl_put c hl hnd (u := u) (v := v) (w := wd d done) (u' := u) (v' := v) (w' := wd d done) (fun _ _ => rfl) (fun _ _ => rfl) (fun _ _ => rfl)))))
  have hwp : wd d done p.z.idx = true := by simpa using h
  refine G.ent (Ent.cons (Ent.cons (Ent.cons (pl_put c hl hnd (u := u) (v := v) (w := wd d done) (u' := u) (v' := v) (w' := wd d done) (fun _ _ => rfl) (fun _ _ => rfl) (fun _ _ => rfl))))) ?_
  clear hl
  refine c_skip ?_
  refine q_then_n ?_
  refine c_seq ?_
  refine c_mid (α := BP) (fun q => [(0, .pointer (some ⟨bb, 0, none⟩)), (1, .iface wt wu), (4, .int .i64 (done.length : Nat)), (5, .nilIface), (16, .pointer (some ⟨it, 0, none⟩)), (6, .int .i64 (q.z.idx : Nat)), (7, .pointer (some q.z.ad))])
    (fun _ => blk it (.mapIter (some mb) k (seen.push p.z.born) k) :: blk bb (cl (bcells pv mb s) 180) :: blk mb (mapO (bme l) k) :: bpgs c (pl l u v (wd d done)) :: TH done :: F)
    (fun q => q ∈ l ∧ q.z.idx ≤ p.z.idx ∧ ∀ j, q.z.idx ≤ j → j ≤ p.z.idx → wd d done j = true ∧ (j < p.z.idx → v j = true)) ?_ ?_
  · refine c_block ?_
    refine c_loop (α := BP) (fun q => [(0, .pointer (some ⟨bb, 0, none⟩)), (1, .iface wt wu), (4, .int .i64 (done.length : Nat)), (5, .nilIface), (16, .pointer (some ⟨it, 0, none⟩)), (6, .int .i64 (q.z.idx : Nat)), (7, .pointer (some q.z.ad))])
      (fun _ => blk it (.mapIter (some mb) k (seen.push p.z.born) k) :: blk bb (cl (bcells pv mb s) 180) :: blk mb (mapO (bme l) k) :: bpgs c (pl l u v (wd d done)) :: TH done :: F)
      (fun q => q ∈ l ∧ q.z.idx ≤ p.z.idx ∧ ∀ j, q.z.idx ≤ j → j ≤ p.z.idx → wd d done j = true ∧ (j < p.z.idx → v j = true)) (fun q => q.z.idx) p
      ⟨hp, Nat.le_refl _, fun j h1 h2 => by obtain rfl : j = p.z.idx := by omega
                                            exact ⟨hwp, fun h => by omega⟩⟩ (by exact ⟨rfl, rfl, rfl, rfl, rfl, rfl, rfl, trivial⟩) (Ent.refl _) ?_
    rintro q ⟨hq, hqp, hqj⟩
    obtain ⟨l1, l2, hl⟩ := List.append_of_mem hq
    refine G.ent (Ent.cons (Ent.cons (Ent.cons (pl_take c hl u v (wd d done))))) ?_
    rw [show bpc (pgx l u v (wd d done) q) = [.pointer (if u q.z.idx then bq l (q.z.idx - 1) else none), .pointer (if v q.z.idx then bq l (q.z.idx + 1) else none), q.pd, .slice (some ⟨q.db, 0, none⟩) 4096 4096, .bool (wd d done q.z.idx)] from rfl]
    have hback : Ent (blk it (.mapIter (some mb) k (seen.push p.z.born) k) :: blk bb (cl (bcells pv mb s) 180) :: blk mb (mapO (bme l) k) :: blk q.z.blk (cl [.pointer (if u q.z.idx then bq l (q.z.idx - 1) else none), .pointer (if v q.z.idx then bq l (q.z.idx + 1) else none), q.pd, .slice (some ⟨q.db, 0, none⟩) 4096 4096, .bool (wd d done q.z.idx)] 194) :: blk q.db (cl (u8s (pgl c q.z.idx)) 5) :: bpgs c ((l1 ++ l2).map (pgx l u v (wd d done))) :: TH done :: F)
      (blk it (.mapIter (some mb) k (seen.push p.z.born) k) :: blk bb (cl (bcells pv mb s) 180) :: blk mb (mapO (bme l) k) :: bpgs c (pl l u v (wd d done)) :: TH done :: F) := Ent.cons (Ent.cons (Ent.cons (pl_put c hl hnd (u := u) (v := v) (w := wd d done) (u' := u) (v' := v) (w' := wd d done) (fun _ _ => rfl) (fun _ _ => rfl) (fun _ _ => rfl))))
    cases hpv : (if u q.z.idx then bq l (q.z.idx - 1) else none) with
    | none =>
      rw [hpv] at hback
      repeat (first | refine wZ ?_ | intro b)
      exact at_intro q ⟨hq, hqp, hqj⟩ ⟨rfl, rfl, rfl, rfl, rfl, rfl, rfl, trivial⟩ hback
    | some a =>
      rw [hpv] at hback
      have hu : u q.z.idx = true := by
        cases hc : u q.z.idx with
        | true => rfl
        | false => rw [hc] at hpv; cases hpv
      rw [hu, if_pos rfl] at hpv
      have hqb := hib q hq
      have hq1 : 1 ≤ q.z.idx := by
        rcases Nat.eq_zero_or_pos q.z.idx with h0 | h0
        · rw [h0, hu0] at hu; cases hu
        · exact h0
      obtain ⟨q', hq', hqi', hbq⟩ := bq_at (l := l) (i := q.z.idx - 1) (by
        obtain ⟨n1, q', n2, hn, hqi', _⟩ := bq_some hpv
        exact ⟨q', by rw [hn]; simp, hqi'⟩)
      rw [hbq] at hpv
      obtain rfl : q'.z.ad = a := by simpa using hpv
      have hqr : q' ∈ l1 ++ l2 := by
        rw [hl] at hq'
        rcases List.mem_append.1 hq' with h | h
        · exact List.mem_append_left _ h
        · rcases List.mem_cons.1 h with rfl | h
          · omega
          · exact List.mem_append_right _ h
      obtain ⟨n1, n2, hn⟩ := List.append_of_mem hqr
      rw [hn, List.map_append, List.map_cons] at hback ⊢
      refine G.ent (Ent.cons (Ent.cons (Ent.cons (Ent.cons (Ent.cons (bpgs_take c (n1.map (pgx l u v (wd d done))) (n2.map (pgx l u v (wd d done))) (pgx l u v (wd d done) q'))))))) ?_
      have hback2 := (Ent.cons (Ent.cons (Ent.cons (Ent.cons (Ent.cons (bpgs_put (L := TH done :: F) c (n1.map (pgx l u v (wd d done))) (n2.map (pgx l u v (wd d done))) (pgx l u v (wd d done) q'))))))).trans hback
      rw [show bpc (pgx l u v (wd d done) q') = [.pointer (if u q'.z.idx then bq l (q'.z.idx - 1) else none), .pointer (if v q'.z.idx then bq l (q'.z.idx + 1) else none), q'.pd, .slice (some ⟨q'.db, 0, none⟩) 4096 4096, .bool (wd d done q'.z.idx)] from rfl] at hback2 ⊢
      repeat (first | refine wZ ?_ | intro b)
      refine c_cond rfl (fun h2 => ?_) (fun h2 => ?_)
      · repeat (first | refine wZ ?_ | intro b)
        have hw2 : wd d done q'.z.idx = true := h2
        rw [← hqi']
        refine at_intro q' ⟨⟨hq', by omega, fun j h3 h4 => ?_⟩, by omega⟩ ⟨rfl, rfl, rfl, rfl, rfl, rfl, rfl, trivial⟩ hback2
        by_cases hj : q.z.idx ≤ j
        · exact hqj j hj h4
        · obtain rfl : j = q'.z.idx := by omega
          exact ⟨hw2, fun _ => huv _ (by rw [hqi', show q.z.idx - 1 + 1 = q.z.idx from by omega]; exact hu)⟩
      · repeat (first | refine wZ ?_ | intro b)
        exact at_intro q ⟨hq, hqp, hqj⟩ ⟨rfl, rfl, rfl, rfl, rfl, rfl, rfl, trivial⟩ hback2
  rintro q ⟨hq, hqp, hqj⟩
  refine c_block ?_
  refine c_loop (α := Option BP × Nat × List Nat) (fun y => [(0, .pointer (some ⟨bb, 0, none⟩)), (1, .iface wt wu), (4, .int .i64 (y.2.2.length : Nat)), (5, .nilIface), (16, .pointer (some ⟨it, 0, none⟩)), (6, .int .i64 (y.2.1 : Nat)), (7, .pointer (y.1.map fun q => q.z.ad))])
    (fun y => blk it (.mapIter (some mb) k (seen.push p.z.born) k) :: blk bb (cl (bcells pv mb s) 180) :: blk mb (mapO (bme l) k) :: bpgs c (pl l u v (wd d y.2.2)) :: TH y.2.2 :: F)
    (fun y => (y.2.2.Nodup ∧ (∀ j ∈ y.2.2, d j = true) ∧ (ok = true ∨ y.2.2 = []) ∧ (∀ j, wd d done j = false → wd d y.2.2 j = false)) ∧ (∀ q, y.1 = some q → q ∈ l ∧ q.z.idx = y.2.1) ∧ (∀ j, y.2.1 ≤ j → j ≤ p.z.idx → wd d y.2.2 j = true ∧ (j < p.z.idx → v j = true)) ∧ (p.z.idx < y.2.1 → wd d y.2.2 p.z.idx = false) ∧ (y.2.1 ≤ p.z.idx → y.1 ≠ none)) (fun y => left l d y.2.2) (some q, q.z.idx, done)
    ⟨⟨hdn, hdd, hdo, fun _ h => h⟩, fun q2 h => by cases h; exact ⟨hq, rfl⟩, hqj, fun h => by dsimp only at h; omega, fun _ h => by cases h⟩ (by exact ⟨rfl, rfl, rfl, rfl, rfl, rfl, rfl, trivial⟩) (Ent.refl _) ?_
  clear hq hqp hqj q hdn hdd hdo
  rintro ⟨oq, i, done2⟩ ⟨⟨hdn, hdd, hdo, hdm⟩, hoq, hqj, hpc, hpn⟩
  dsimp only at hdn hdd hdo hdm hoq hqj hpc hpn ⊢
  cases oq with
  | none =>
    repeat (first | refine wZ ?_ | intro b)
    have h1 : p.z.idx < i := by
      rcases Nat.lt_or_ge p.z.idx i with h | h
      · exact h
      · exact absurd rfl (hpn h)
    exact at_intro (seen.push p.z.born, done2) ⟨⟨hdn, hdd, hdo, hdsn done2 hdm (hpc h1)⟩, hbl⟩ ⟨rfl, rfl, rfl, rfl, rfl, trivial⟩ (Ent.refl _)
  | some q =>
    obtain ⟨hq, rfl⟩ := hoq q rfl
    obtain ⟨l1, l2, hl⟩ := List.append_of_mem hq
    refine G.ent (Ent.cons (Ent.cons (Ent.cons (pl_take c hl u v (wd d done2))))) ?_
    rw [show bpc (pgx l u v (wd d done2) q) = [.pointer (if u q.z.idx then bq l (q.z.idx - 1) else none), .pointer (if v q.z.idx then bq l (q.z.idx + 1) else none), q.pd, .slice (some ⟨q.db, 0, none⟩) 4096 4096, .bool (wd d done2 q.z.idx)] from rfl]
    repeat (first | refine wY ?_ | intro b)
    refine c_cond rfl (fun h2 => ?_) (fun h2 => ?_)
    rotate_left
    · repeat (first | refine wZ ?_ | intro b)
      have hw2 : wd d done2 q.z.idx = false := h2
      have h1 : p.z.idx < q.z.idx := by
        rcases Nat.lt_or_ge p.z.idx q.z.idx with h | h
        · exact h
        · have := (hqj _ (Nat.le_refl _) h).1
          rw [hw2] at this
          cases this
      exact at_intro (seen.push p.z.born, done2) ⟨⟨hdn, hdd, hdo, hdsn done2 hdm (hpc h1)⟩, hbl⟩ ⟨rfl, rfl, rfl, rfl, rfl, trivial⟩ (Ent.cons (Ent.cons (Ent.cons (pl_put c hl hnd (u := u) (v := v) (w := wd d done2) (u' := u) (v' := v) (w' := wd d done2) (fun _ _ => rfl) (fun _ _ => rfl) (fun _ _ => rfl)))))
    have hw2 : wd d done2 q.z.idx = true := h2
    have hqb := hib q hq
    have hdl : done2.length ≤ 1000000000000 := nodup_len _ _ hdn fun j hj => by
      obtain ⟨p, hp, rfl⟩ := hok.dn j (hdd j hj)
      have := hok.bd p hp
      omega
    repeat (first | refine wY ?_ | intro b)
    refine h_any [blk q.z.blk (cl [.pointer (if u q.z.idx then bq l (q.z.idx - 1) else none), .pointer (if v q.z.idx then bq l (q.z.idx + 1) else none), q.pd, .slice (some ⟨q.db, 0, none⟩) 4096 4096, .bool (wd d done2 q.z.idx)] 194)] 16 rfl ?_
    have hE : Ent (blk it (.mapIter (some mb) k (seen.push p.z.born) k) :: blk bb (cl (bcells pv mb s) 180) :: blk mb (mapO (bme l) k) :: blk q.z.blk (cl [.pointer (if u q.z.idx then bq l (q.z.idx - 1) else none), .pointer (if v q.z.idx then bq l (q.z.idx + 1) else none), q.pd, .slice (some ⟨q.db, 0, none⟩) 4096 4096, .bool (wd d done2 q.z.idx)] 194) :: blk q.db (cl (u8s (pgl c q.z.idx)) 5) :: bpgs c ((l1 ++ l2).map (pgx l u v (wd d done2))) :: TH done2 :: F) [blk q.z.blk (cl [.pointer (if u q.z.idx then bq l (q.z.idx - 1) else none), .pointer (if v q.z.idx then bq l (q.z.idx + 1) else none), q.pd, .slice (some ⟨q.db, 0, none⟩) 4096 4096, .bool (wd d done2 q.z.idx)] 194)] := Ent.trans (arr_ent 0 [3] _) (Ent.left [_] _)
    refine h_take (by assumption) 0 rfl (by kernel_rfl) (by kernel_rfl) (by kernel_rfl) rfl rfl rfl pQ rV ?_
    refine h_take (by assumption) 1 rfl (by kernel_rfl) (by kernel_rfl) (by kernel_rfl) rfl rfl rfl pQ rV ?_
    refine h_take (by assumption) 2 rfl (by kernel_rfl) (by kernel_rfl) (by kernel_rfl) rfl rfl rfl pQ rV ?_
    refine h_take (by assumption) 3 rfl (by kernel_rfl) (by kernel_rfl) (by kernel_rfl) rfl rfl rfl pQ rV ?_
    refine h_take (by assumption) 4 rfl (by kernel_rfl) (by kernel_rfl) (by kernel_rfl) rfl rfl rfl pQ rV ?_
    refine h_take (by assumption) 5 rfl (by kernel_rfl) (by kernel_rfl) (by kernel_rfl) rfl rfl rfl pQ rV ?_
    refine h_take (by assumption) 6 rfl (by kernel_rfl) (by kernel_rfl) (by kernel_rfl) rfl rfl rfl pQ (RunS.v (r_shlN 12 rfl rfl rfl (by rw [max_i64]; omega))) ?_
    refine h_take (by assumption) 7 rfl (by kernel_rfl) (by kernel_rfl) (by kernel_rfl) rfl rfl rfl pQ (RunS.v (r_mkMeth rfl)) ?_
    refine h_take (by assumption) 8 rfl (by kernel_rfl) (by kernel_rfl) (by kernel_rfl) rfl rfl rfl pQ (RunS.v (r_nilM rfl)) ?_
    refine h_take (by assumption) 9 rfl (by kernel_rfl) (by kernel_rfl) (by kernel_rfl) rfl rfl rfl pQ rV ?_
    refine h_one 10 (by kernel_rfl) rfl rfl ?_
    refine s_invokeM rfl rfl rfl (hw q.db done2 q.z.idx (wd_t.1 hw2).1 (wd_t.1 hw2).2 hdd) [6, 4] rfl ?_ (fun _ _ h => h.elim)
    rintro _ _ (⟨hok1, rfl, rfl⟩ | ⟨hok1, pb, rfl, rfl⟩)
    · refine h_then (Ent.trans (arr_ent 0 [5] _) (Ent.left [_] _)) ?_
      have hE2 : Ent ([TH (done2 ++ [q.z.idx]), blk q.db (cl (u8s (pgl c q.z.idx)) 5)] ++ blk it (.mapIter (some mb) k (seen.push p.z.born) k) :: blk bb (cl (bcells pv mb s) 180) :: blk mb (mapO (bme l) k) :: blk q.z.blk (cl [.pointer (if u q.z.idx then bq l (q.z.idx - 1) else none), .pointer (if v q.z.idx then bq l (q.z.idx + 1) else none), q.pd, .slice (some ⟨q.db, 0, none⟩) 4096 4096, .bool (wd d done2 q.z.idx)] 194) :: bpgs c ((l1 ++ l2).map (pgx l u v (wd d done2))) :: F) [blk q.z.blk (cl [.pointer (if u q.z.idx then bq l (q.z.idx - 1) else none), .pointer (if v q.z.idx then bq l (q.z.idx + 1) else none), q.pd, .slice (some ⟨q.db, 0, none⟩) 4096 4096, .bool (wd d done2 q.z.idx)] 194)] := Ent.trans (arr_ent 0 [5] _) (Ent.left [_] _)
      refine h_take (by assumption) 11 rfl (by kernel_rfl) (by kernel_rfl) (by kernel_rfl) rfl rfl rfl pQ rV ?_
      refine h_take (by assumption) 12 rfl (by kernel_rfl) (by kernel_rfl) (by kernel_rfl) rfl rfl rfl pQ rV ?_
      refine h_take (by assumption) 13 rfl (by kernel_rfl) (by kernel_rfl) (by kernel_rfl) rfl rfl rfl pQ rV ?_
      refine h_take (by assumption) 14 rfl (by kernel_rfl) (by kernel_rfl) (by kernel_rfl) rfl rfl rfl pQ rV ?_
      refine h_take (by assumption) 15 rfl (by kernel_rfl) (by kernel_rfl) (by kernel_rfl) rfl rfl rfl pQ rV ?_
      refine h_done (by kernel_rfl) ?_
      refine q_then_n ?_
      repeat (first | refine wZ ?_ | intro b)
      have hw4 : wd d (done2 ++ [q.z.idx]) q.z.idx = false := by rw [wd_add]; simp
      have hput : Ent (blk q.z.blk (cl ([.pointer (if u q.z.idx then bq l (q.z.idx - 1) else none), .pointer (if v q.z.idx then bq l (q.z.idx + 1) else none), q.pd, .slice (some ⟨q.db, 0, none⟩) 4096 4096, .bool (wd d done2 q.z.idx)].set (0 + 4) (.bool false)) 194) :: blk q.db (cl (u8s (pgl c q.z.idx)) 5) :: bpgs c ((l1 ++ l2).map (pgx l u v (wd d done2))) :: TH (done2 ++ [q.z.idx]) :: F) (bpgs c (pl l u v (wd d (done2 ++ [q.z.idx]))) :: TH (done2 ++ [q.z.idx]) :: F) := by
        have h3 := pl_put (L := TH (done2 ++ [q.z.idx]) :: F) c hl hnd (u := u) (v := v) (w := wd d done2) (u' := u) (v' := v) (w' := wd d (done2 ++ [q.z.idx])) (fun _ _ => rfl) (fun _ _ => rfl) (fun j hj => by rw [wd_add, decide_eq_true hj, Bool.and_true])
        rw [show bpc (pgx l u v (wd d (done2 ++ [q.z.idx])) q) = [.pointer (if u q.z.idx then bq l (q.z.idx - 1) else none), .pointer (if v q.z.idx then bq l (q.z.idx + 1) else none), q.pd, .slice (some ⟨q.db, 0, none⟩) 4096 4096, .bool (wd d (done2 ++ [q.z.idx]) q.z.idx)] from rfl, hw4] at h3
        exact h3
      have hall : Ent (blk q.z.blk (cl ([.pointer (if u q.z.idx then bq l (q.z.idx - 1) else none), .pointer (if v q.z.idx then bq l (q.z.idx + 1) else none), q.pd, .slice (some ⟨q.db, 0, none⟩) 4096 4096, .bool (wd d done2 q.z.idx)].set (0 + 4) (.bool false)) 194) :: TH (done2 ++ [q.z.idx]) :: blk q.db (cl (u8s (pgl c q.z.idx)) 5) :: blk it (.mapIter (some mb) k (seen.push p.z.born) k) :: blk bb (cl (bcells pv mb s) 180) :: blk mb (mapO (bme l) k) :: bpgs c ((l1 ++ l2).map (pgx l u v (wd d done2))) :: F)
        (blk it (.mapIter (some mb) k (seen.push p.z.born) k) :: blk bb (cl (bcells pv mb s) 180) :: blk mb (mapO (bme l) k) :: bpgs c (pl l u v (wd d (done2 ++ [q.z.idx]))) :: TH (done2 ++ [q.z.idx]) :: F) := Ent.trans (arr_ent 0 [3, 3, 3, 0, 1, 1] _) (Ent.cons (Ent.cons (Ent.cons hput)))
      have hlen : done2.length + 1 = (done2 ++ [q.z.idx]).length := by simp
      rw [hlen]
      have hcond : ∀ oq : Option BP, (∀ x, oq = some x → x ∈ l ∧ x.z.idx = q.z.idx + 1) → (q.z.idx + 1 ≤ p.z.idx → oq ≠ none) → (((done2 ++ [q.z.idx]).Nodup ∧ (∀ j ∈ done2 ++ [q.z.idx], d j = true) ∧ (ok = true ∨ done2 ++ [q.z.idx] = []) ∧ (∀ j, wd d done j = false → wd d (done2 ++ [q.z.idx]) j = false)) ∧ (∀ x, oq = some x → x ∈ l ∧ x.z.idx = q.z.idx + 1) ∧ (∀ j, q.z.idx + 1 ≤ j → j ≤ p.z.idx → wd d (done2 ++ [q.z.idx]) j = true ∧ (j < p.z.idx → v j = true)) ∧ (p.z.idx < q.z.idx + 1 → wd d (done2 ++ [q.z.idx]) p.z.idx = false) ∧ (q.z.idx + 1 ≤ p.z.idx → oq ≠ none)) ∧ left l d (done2 ++ [q.z.idx]) < left l d done2 := fun oq h5 h6 => by
        refine ⟨⟨⟨?_, ?_, .inl hok1, ?_⟩, h5, ?_, ?_, h6⟩, left_lt hq hw2⟩
        · rw [List.nodup_append]
          refine ⟨hdn, by simp, ?_⟩
          intro a ha b hb e
          simp at hb
          exact (wd_t.1 hw2).2 (by rw [← hb, ← e]; exact ha)
        · intro j hj
          rcases List.mem_append.1 hj with h | h
          · exact hdd j h
          · simp at h
            rw [h]
            exact (wd_t.1 hw2).1
        · intro j hj
          rw [wd_add, hdm j hj, Bool.false_and]
        · intro j h7 h8
          have := hqj j (by omega) h8
          refine ⟨?_, this.2⟩
          rw [wd_add, this.1, decide_eq_true (by omega), Bool.true_and]
        · intro h7
          by_cases h8 : p.z.idx = q.z.idx
          · rw [h8]; exact hw4
          · rw [wd_add, hpc (by omega), Bool.false_and]
      cases hnx : (if v q.z.idx then bq l (q.z.idx + 1) else none) with
      | none =>
        refine at_intro (none, q.z.idx + 1, done2 ++ [q.z.idx]) (hcond none (fun _ h => by cases h) fun h8 => ?_) ⟨rfl, rfl, rfl, rfl, rfl, rfl, rfl, trivial⟩ (by rw [hnx] at hall; exact hall)
        exfalso
        have h9 := (hqj q.z.idx (Nat.le_refl _) (by omega)).2 (by omega)
        rw [h9, if_pos rfl] at hnx
        obtain ⟨q2, hq2, e2, e3⟩ := bq_at (l := l) (i := q.z.idx + 1) (hok.dn _ (wd_t.1 (hqj (q.z.idx + 1) (by omega) h8).1).1)
        rw [e3] at hnx
        cases hnx
      | some a =>
        have h9 : v q.z.idx = true := by
          cases hc : v q.z.idx with
          | true => rfl
          | false => rw [hc] at hnx; cases hnx
        have hnx2 := hnx
        rw [h9, if_pos rfl] at hnx2
        obtain ⟨n1, q2, n2, hn, hq2, ha⟩ := bq_some hnx2
        rw [ha] at hnx
        rw [ha]
        exact at_intro (some q2, q.z.idx + 1, done2 ++ [q.z.idx]) (hcond (some q2) (fun x h => by cases h; exact ⟨by rw [hn]; simp, hq2⟩) fun _ h => by cases h) ⟨rfl, rfl, rfl, rfl, rfl, rfl, rfl, trivial⟩ (by rw [hnx] at hall; exact hall)
    · refine h_then (Ent.trans (arr_ent 0 [5] _) (Ent.left [_] _)) ?_
      have hE2 : Ent ([TH done2, blk q.db (cl (u8s (pgl c q.z.idx)) 5)] ++ blk it (.mapIter (some mb) k (seen.push p.z.born) k) :: blk bb (cl (bcells pv mb s) 180) :: blk mb (mapO (bme l) k) :: blk q.z.blk (cl [.pointer (if u q.z.idx then bq l (q.z.idx - 1) else none), .pointer (if v q.z.idx then bq l (q.z.idx + 1) else none), q.pd, .slice (some ⟨q.db, 0, none⟩) 4096 4096, .bool (wd d done2 q.z.idx)] 194) :: bpgs c ((l1 ++ l2).map (pgx l u v (wd d done2))) :: F) [blk q.z.blk (cl [.pointer (if u q.z.idx then bq l (q.z.idx - 1) else none), .pointer (if v q.z.idx then bq l (q.z.idx + 1) else none), q.pd, .slice (some ⟨q.db, 0, none⟩) 4096 4096, .bool (wd d done2 q.z.idx)] 194)] := Ent.trans (arr_ent 0 [5] _) (Ent.left [_] _)
      refine h_take (by assumption) 11 rfl (by kernel_rfl) (by kernel_rfl) (by kernel_rfl) rfl rfl rfl pQ rV ?_
      refine h_take (by assumption) 12 rfl (by kernel_rfl) (by kernel_rfl) (by kernel_rfl) rfl rfl rfl pQ rV ?_
      refine h_take (by assumption) 13 rfl (by kernel_rfl) (by kernel_rfl) (by kernel_rfl) rfl rfl rfl pQ rV ?_
      refine h_take (by assumption) 14 rfl (by kernel_rfl) (by kernel_rfl) (by kernel_rfl) rfl rfl rfl pQ rV ?_
      refine h_take (by assumption) 15 rfl (by kernel_rfl) (by kernel_rfl) (by kernel_rfl) rfl rfl rfl pQ rV ?_
      refine h_done (by kernel_rfl) ?_
      refine q_then_n ?_
      unfold permV
      repeat (first | refine wZ ?_ | intro b)
      have hd0 : done2 = [] := by
        rcases hdo with h | h
        · rw [hok1] at h; cases h
        · exact h
      subst hd0
      refine e_ret2 _ rfl rfl rfl (.inr ⟨hok1, pb, rfl, rfl⟩) ?_
      refine Ent.trans (arr_ent 1 [3, 3, 3, 1, 2, 0] _) ?_
      refine Ent.trans (Ent.cons (Ent.cons (pl_put c hl hnd (u := u) (v := v) (w := wd d []) (u' := u) (v' := v) (w' := wd d []) (fun _ _ => rfl) (fun _ _ => rfl) (fun _ _ => rfl)))) ?_
      rw [← bme_pl l u v (wd d [])]
      exact (bx_shut (hx.pl u v (wd d []))).trans (arr_ent 0 [1, 0] _)
end
end Go.Proofs.YtfebpbflpdppiaaGreatDoor
