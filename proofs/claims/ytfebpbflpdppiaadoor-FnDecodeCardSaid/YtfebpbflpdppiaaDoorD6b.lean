/- Walks over kind and Decode. -/
import Derived.Test.YtfebpbflpdppiaaDoorD6
namespace Go.Proofs.YtfebpbflpdppiaaDoor
open Go Go.Sl
set_option maxRecDepth 100000
attribute [local irreducible] wpList Code.wp Exit.then Exit.inBlock bodyPost RunS RunV G St Ct Sat Ent At Rd GQ QL wpAny wpOp wpQuiet slP Sl.ex sep
attribute [local irreducible] anys anyP
theorem kind_nil : Ct Tryd.prog 14 #[.nilIface] [] (fun v B => v = .int .i64 0 ∧ B = []) nev := by
  refine Ct.of Tryd.func14 rfl Tryd.ntmps14 rfl fun m F => ?_
  repeat (first | refine wW ?_ | intro b)
  first | exact e_ret1 [] rfl rfl ⟨rfl, rfl⟩ (Ent.refl _) | exact e_ret0 [] rfl ⟨rfl, rfl⟩ (Ent.refl _) | exact e_nor0 [] rfl ⟨rfl, rfl⟩ (Ent.refl _) | exact e_ret2 [] rfl rfl rfl ⟨rfl, rfl⟩ (Ent.refl _)
theorem kind_bad (p : Value) : Ct Tryd.prog 14 #[.iface 61 p] [] (fun v B => v = .int .i64 4 ∧ B = []) nev := by
  refine Ct.of Tryd.func14 rfl Tryd.ntmps14 rfl fun m F => ?_
  repeat (first | refine wW ?_ | intro b)
  first | exact e_ret1 [] rfl rfl ⟨rfl, rfl⟩ (Ent.refl _) | exact e_ret0 [] rfl ⟨rfl, rfl⟩ (Ent.refl _) | exact e_nor0 [] rfl ⟨rfl, rfl⟩ (Ent.refl _) | exact e_ret2 [] rfl rfl rfl ⟨rfl, rfl⟩ (Ent.refl _)
theorem scL_len (s : Sc) : (scL s).length = 6 := rfl
theorem scLs_len (l : List Sc) : (l.flatMap scL).length = l.length * 6 := by
  induction l with
  | nil => rfl
  | cons s l ih => simp only [List.flatMap_cons, List.length_append, scL_len, ih, List.length_cons]; omega
theorem scL_one (s : Sc) : (scL s).all (·.oneCell') = true := rfl
/-- what Decode answers -/
def DecR (bs : List UInt8) : Value → List HP → Prop := fun v B =>
  (∃ l a c, decN bs.length bs = .ok l ∧ l.length ≤ bs.length ∧ v = .tuple #[.slice a l.length c, .int .i64 0] ∧ B = [slP (.slice a l.length c) 36 6 (l.flatMap scL)]) ∨
  ((∀ l, decN bs.length bs ≠ .ok l) ∧ B = [] ∧ ∃ k : Int, k ≠ 0 ∧ v = .tuple #[.slice none 0 0, .int .i64 k])
theorem anys_pick (l1 l2 : List (Value × Sc)) (p : Value × Sc) (L : List HP) : Ent (anys (l1 ++ p :: l2) :: L) (anyP p :: anys (l1 ++ l2) :: L) := by
  unfold anys
  refine (sep_open _ _).trans (Ent.trans (Ent.perm ?_) (Ent.cons (sep_shut _ _)))
  simp only [List.map_append, List.map_cons, List.append_assoc, List.cons_append]
  exact List.perm_middle
theorem anys_put (l1 l2 : List (Value × Sc)) (p : Value × Sc) (L : List HP) : Ent (anyP p :: anys (l1 ++ l2) :: L) (anys (l1 ++ p :: l2) :: L) := by
  unfold anys
  refine (Ent.cons (sep_open _ _)).trans (Ent.trans (Ent.perm ?_) (sep_shut _ _))
  simp only [List.map_append, List.map_cons, List.append_assoc, List.cons_append]
  exact List.perm_middle.symm
set_option maxHeartbeats 8000000 in
theorem Decode_c (bs ext : List UInt8) (ib : Nat) (h0 : bs ≠ []) (he : ext.take bs.length = bs) (hle : bs.length ≤ ext.length) (hm : bs.length ≤ 100000000000) (hmx : ext.length ≤ maxLen) :
    Ct Tryd.prog 5 #[.slice (some ⟨ib, 0, none⟩) bs.length ext.length] [blk ib (cl (u8s ext) 5)] (DecR bs) nev := by
  refine Ct.ofD Tryd.func5 rfl Tryd.ntmps5 rfl fun m F => ?_
  repeat (first | refine wW ?_ | intro b)
  rename_i b2
  show G 31 [] [(3, .pointer (some ⟨b, 0, none⟩)), (2, .pointer (some ⟨b2, 0, none⟩)), (0, .slice (some ⟨ib, 0, none⟩) bs.length ext.length)] m (blk b (cl [.int .i64 0] 3) :: blk b2 (cl [.slice none 0 0] 24) :: blk ib (cl (u8s ext) 5) :: F) _
  refine l_plain rfl ?_
  apply s_val rfl rfl
  · exact RunS.v (r_makeFn rfl)
  refine l_plain rfl (s_defer rfl rfl ?_)
  repeat (first | refine wW ?_ | intro b)
  refine l_plain rfl (s_call rfl rfl (DecodeScalars_c bs ext ib h0 he hle hm hmx) [2] rfl ?_ ?_)
  rotate_left
  · rintro c B ⟨hb, rfl, T, v, rfl⟩
    repeat (first | refine wW ?_ | intro b)
    refine e_panR Tryd.func12 rfl rfl Tryd.ntmps12 (by decide) (by decide) (by decide) (Nat.le_of_ble_eq_true rfl) (blk b2 (cl [.slice none 0 0] 24) :: blk b (cl [.int .i64 7] 3) :: F) ?_ ?_
    · repeat (first | refine wW ?_ | intro b)
      exact qr_n (arr_ent 0 [1, 0] _)
    · exact fun tmps w g hw => ⟨_, res_cc rfl rfl rfl rfl rfl (rd_blk 0 rfl rfl) (rd_blk 1 rfl rfl) tmps w g hw, [], .inr ⟨fun l e => (by rw [hb] at e; cases e), rfl, 7, by decide, rfl⟩, hw.ent (arr_ent 2 [] _)⟩
  rintro v B (⟨l, a, c, acc, hd, rfl, hal, ha1, rfl, rfl⟩ | ⟨hb, rfl, p, rfl⟩)
  rotate_left
  · repeat (first | refine wW ?_ | intro b)
    refine l_plain rfl (s_call rfl rfl (kind_bad p) [] rfl ?_ (fun _ _ h => h.elim))
    rintro _ _ ⟨rfl, rfl⟩
    repeat (first | refine wW ?_ | intro b)
    refine e_retR Tryd.func12 rfl rfl Tryd.ntmps12 (by decide) (by decide) (by decide) (Nat.le_of_ble_eq_true rfl) ?_
    exact fun tmps w g hw => ⟨_, res_cc rfl rfl rfl rfl rfl (rd_blk 1 rfl rfl) (rd_blk 0 rfl rfl) tmps w g hw, [], .inr ⟨fun l e => (by rw [hb] at e; cases e), rfl, 4, by decide, rfl⟩, hw.ent (arr_ent 2 [] _)⟩
  have hml : 1000000000000 ≤ maxLen := by unfold maxLen; omega
  repeat (first | refine wW ?_ | intro b)
  refine c_loop (α := Nat × Option Addr × Nat) (fun y => [(2, .pointer (some ⟨b2, 0, none⟩)), (3, .pointer (some ⟨b, 0, none⟩)), (18, .slice a acc.length c), (19, .int .i64 (acc.length : Nat)), (20, .int .i64 (y.1 : Nat))])
    (fun y => blk b2 (cl [.slice y.2.1 y.1 y.2.2] 24) :: slP (.slice y.2.1 y.1 y.2.2) 36 6 (((acc.take y.1).map Prod.snd).flatMap scL) :: blk b (cl [.int .i64 0] 3) :: slP (.slice a acc.length c) 20 1 (acc.map Prod.fst) :: anys acc :: F)
    (fun y => y.1 ≤ acc.length) (fun y => acc.length - y.1) (0, none, 0) (Nat.zero_le _) ⟨rfl, rfl, rfl, rfl, rfl, trivial⟩ ((arr_ent 1 [4, 3, 1, 1] _).trans (Ent.cons (slP_nil (e := 36) (size := 6)))) ?_
  rintro ⟨i, oa, oc⟩ hi
  dsimp only at hi ⊢
  repeat (first | refine wW ?_ | intro b)
  refine c_cond rfl (fun h => ?_) (fun h => ?_)
  rotate_left
  · have h := of_decide_eq_false h
    have hil : i = acc.length := by omega
    subst hil
    rw [List.take_length]
    repeat (first | refine wW ?_ | intro b)
    refine e_retR Tryd.func12 rfl rfl Tryd.ntmps12 (by decide) (by decide) (by decide) (Nat.le_of_ble_eq_true rfl) ?_
    exact fun tmps w g hw => ⟨_, res_cc rfl rfl rfl rfl rfl (rd_blk 1 rfl rfl) (rd_blk 0 rfl rfl) tmps w g hw, [slP (.slice oa acc.length oc) 36 6 ((acc.map Prod.snd).flatMap scL)], .inl ⟨acc.map Prod.snd, oa, oc, hd, by simpa using hal, by rw [List.length_map], by rw [List.length_map]⟩, hw.ent (arr_ent 4 [2] _)⟩
  have h := of_decide_eq_true h
  obtain ⟨l1, ⟨pv, ps⟩, l2, hacc, hl1⟩ : ∃ l1 p l2, acc = l1 ++ p :: l2 ∧ l1.length = i := ⟨acc.take i, acc[i]'(by omega), acc.drop (i + 1), by simp, by simp; omega⟩
  have hget : (acc.map Prod.fst)[i]? = some pv := by rw [hacc, ← hl1]; simp
  have htk : (acc.take (i + 1)).map Prod.snd = (acc.take i).map Prod.snd ++ [ps] := by rw [hacc, ← hl1, List.take_length_add_append, List.take_left]; simp
  repeat (first | refine wW ?_ | intro b)
  refine G.ent (L' := slP (.slice a acc.length c) 20 1 (acc.map Prod.fst) :: anys acc :: blk b2 (cl [.slice oa i oc] 24) :: slP (.slice oa i oc) 36 6 (((acc.take i).map Prod.snd).flatMap scL) :: blk b (cl [.int .i64 0] 3) :: F) (arr_ent 0 [3, 3] _) ?_
  refine slP_some (by intro e; rw [e] at hget; simp at hget) fun sb hsb _ _ _ => ?_
  subst hsb
  refine l_plain rfl ?_
  apply s_val rfl rfl
  · exact RunS.v (r_index (i := i) rfl rfl rfl (by omega))
  rw [Nat.mul_one]
  refine l_plain rfl ?_
  apply s_val rfl rfl
  · exact r_load rfl rfl (rd_sl 0 rfl (by rw [Nat.zero_add]; exact hget))
  have hpick : ∀ L, Ent (anys acc :: L) (anyP (pv, ps) :: anys (l1 ++ l2) :: L) := by rw [hacc]; exact anys_pick l1 l2 (pv, ps)
  have hput : ∀ L, Ent (anyP (pv, ps) :: anys (l1 ++ l2) :: L) (anys acc :: L) := by rw [hacc]; exact anys_put l1 l2 (pv, ps)
  have hfin : ∀ (tb : Nat) (a' : Option Addr) (c' : Nat), Ent (blk b2 (cl [.slice a' (i + 1) c'] 24) :: slP (.slice a' (i + 1) c') 36 6 (((acc.take i).map Prod.snd).flatMap scL ++ scL ps) :: blk tb (cl (scL ps) 36) :: anyP (pv, ps) :: anys (l1 ++ l2) :: slP (.slice (some ⟨sb, 0, none⟩) acc.length c) 20 1 (acc.map Prod.fst) :: blk b (cl [.int .i64 0] 3) :: F)
      (blk b2 (cl [.slice a' (i + 1) c'] 24) :: slP (.slice a' (i + 1) c') 36 6 (((acc.take (i + 1)).map Prod.snd).flatMap scL) :: blk b (cl [.int .i64 0] 3) :: slP (.slice (some ⟨sb, 0, none⟩) acc.length c) 20 1 (acc.map Prod.fst) :: anys acc :: F) := fun tb a' c' => by
    rw [htk, List.flatMap_append, show [ps].flatMap scL = scL ps by simp]
    exact (arr_ent 1 [0, 0, 4, 3, 1, 1] _).trans (Ent.cons (Ent.cons (Ent.cons (Ent.cons (hput F)))))
  repeat (first | refine wX ?_ | intro b)
  refine G.ent ((arr_ent 0 [1] _).trans (hpick (slP (.slice (some ⟨sb, 0, none⟩) acc.length c) 20 1 (acc.map Prod.fst) :: blk b2 (cl [.slice oa i oc] 24) :: slP (.slice oa i oc) 36 6 (((acc.take i).map Prod.snd).flatMap scL) :: blk b (cl [.int .i64 0] 3) :: F))) ?_
  refine c_any 6 rfl ?_
  refine a_two 0 1 (by kernel_rfl) rfl rfl rfl rfl ?_ ?_
  · apply s_val rfl rfl
    · exact r_load rfl rfl (rd_blk 3 rfl rfl)
    refine a_one 1 (by kernel_rfl) rfl rfl ?_
    apply s_val rfl rfl
    · exact RunS.v (r_move rfl)
    refine a_one 2 (by kernel_rfl) rfl rfl ?_
    refine s_call rfl rfl (scalar_c pv ps) [0] rfl ?_ (fun _ _ h => h.elim)
    rintro _ _ ⟨rfl, rfl⟩
    refine a_one 3 (by kernel_rfl) rfl rfl ?_
    refine s_build (size := 6) (vs := [.agg (scL ps).toArray]) (l := scL ps) rfl rfl rfl rfl rfl (by intro v hv; simp at hv; subst hv; rfl) (by simp [Value.cells]) rfl rfl ?_
    intro tb
    refine a_one 4 (by kernel_rfl) rfl rfl ?_
    refine s_append (i := 5) rfl rfl rfl (Src.some _ _ _ _ _ rfl (rdn_all 0 rfl)) rfl rfl (by rw [scLs_len, List.length_map, List.length_take]; omega) rfl (by omega) (by omega) rfl ?_
    intro a' c'
    refine a_one 5 (by kernel_rfl) rfl rfl ?_
    refine s_store (i := 5) rfl rfl rfl rfl rfl rfl rfl ?_
    refine a_done (by kernel_rfl) ?_
    repeat (first | refine wX ?_ | intro b)
    exact at_intro (i + 1, a', c') ⟨by dsimp only; omega, by dsimp only; omega⟩ ⟨rfl, rfl, rfl, rfl, rfl, trivial⟩ (hfin tb a' c')
  apply s_val rfl rfl
  · exact RunS.v (r_move rfl)
  refine a_two 0 2 (by kernel_rfl) rfl rfl rfl rfl ?_ ?_
  · apply s_val rfl rfl
    · exact r_load rfl rfl (rd_blk 3 rfl rfl)
    refine a_one 2 (by kernel_rfl) rfl rfl ?_
    refine s_call rfl rfl (scalar_c pv ps) [0] rfl ?_ (fun _ _ h => h.elim)
    rintro _ _ ⟨rfl, rfl⟩
    refine a_one 3 (by kernel_rfl) rfl rfl ?_
    refine s_build (size := 6) (vs := [.agg (scL ps).toArray]) (l := scL ps) rfl rfl rfl rfl rfl (by intro v hv; simp at hv; subst hv; rfl) (by simp [Value.cells]) rfl rfl ?_
    intro tb
    refine a_one 4 (by kernel_rfl) rfl rfl ?_
    refine s_append (i := 5) rfl rfl rfl (Src.some _ _ _ _ _ rfl (rdn_all 0 rfl)) rfl rfl (by rw [scLs_len, List.length_map, List.length_take]; omega) rfl (by omega) (by omega) rfl ?_
    intro a' c'
    refine a_one 5 (by kernel_rfl) rfl rfl ?_
    refine s_store (i := 5) rfl rfl rfl rfl rfl rfl rfl ?_
    refine a_done (by kernel_rfl) ?_
    repeat (first | refine wX ?_ | intro b)
    exact at_intro (i + 1, a', c') ⟨by dsimp only; omega, by dsimp only; omega⟩ ⟨rfl, rfl, rfl, rfl, rfl, trivial⟩ (hfin tb a' c')
  refine s_call rfl rfl (scalar_c pv ps) [0] rfl ?_ (fun _ _ h => h.elim)
  rintro _ _ ⟨rfl, rfl⟩
  refine a_two 0 3 (by kernel_rfl) rfl rfl rfl rfl ?_ ?_
  · apply s_val rfl rfl
    · exact r_load rfl rfl (rd_blk 3 rfl rfl)
    refine a_one 3 (by kernel_rfl) rfl rfl ?_
    refine s_build (size := 6) (vs := [.agg (scL ps).toArray]) (l := scL ps) rfl rfl rfl rfl rfl (by intro v hv; simp at hv; subst hv; rfl) (by simp [Value.cells]) rfl rfl ?_
    intro tb
    refine a_one 4 (by kernel_rfl) rfl rfl ?_
    refine s_append (i := 5) rfl rfl rfl (Src.some _ _ _ _ _ rfl (rdn_all 0 rfl)) rfl rfl (by rw [scLs_len, List.length_map, List.length_take]; omega) rfl (by omega) (by omega) rfl ?_
    intro a' c'
    refine a_one 5 (by kernel_rfl) rfl rfl ?_
    refine s_store (i := 5) rfl rfl rfl rfl rfl rfl rfl ?_
    refine a_done (by kernel_rfl) ?_
    repeat (first | refine wX ?_ | intro b)
    exact at_intro (i + 1, a', c') ⟨by dsimp only; omega, by dsimp only; omega⟩ ⟨rfl, rfl, rfl, rfl, rfl, trivial⟩ (hfin tb a' c')
  refine s_build (size := 6) (vs := [.agg (scL ps).toArray]) (l := scL ps) rfl rfl rfl rfl rfl (by intro v hv; simp at hv; subst hv; rfl) (by simp [Value.cells]) rfl rfl ?_
  intro tb
  refine a_one 0 (by kernel_rfl) rfl rfl ?_
  apply s_val rfl rfl
  · exact r_load rfl rfl (rd_blk 4 rfl rfl)
  refine a_one 4 (by kernel_rfl) rfl rfl ?_
  refine s_append (i := 5) rfl rfl rfl (Src.some _ _ _ _ _ rfl (rdn_all 0 rfl)) rfl rfl (by rw [scLs_len, List.length_map, List.length_take]; omega) rfl (by omega) (by omega) rfl ?_
  intro a' c'
  refine a_one 5 (by kernel_rfl) rfl rfl ?_
  refine s_store (i := 5) rfl rfl rfl rfl rfl rfl rfl ?_
  refine a_done (by kernel_rfl) ?_
  repeat (first | refine wX ?_ | intro b)
  exact at_intro (i + 1, a', c') ⟨by dsimp only; omega, by dsimp only; omega⟩ ⟨rfl, rfl, rfl, rfl, rfl, trivial⟩ (hfin tb a' c')
end Go.Proofs.YtfebpbflpdppiaaDoor
