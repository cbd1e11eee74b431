/- The walk over DecodeScalars. Printed by a program (wip/tools/genD5.py). -/
import Derived.Test.YtfebpbflpdppiaaDoorD4
namespace Go.Proofs.YtfebpbflpdppiaaDoor
open Go Go.Sl
set_option maxRecDepth 100000
attribute [local irreducible] wpList Code.wp Exit.then Exit.inBlock bodyPost RunS RunV G St Ct Sat Ent At Rd GQ QL wpAny wpOp wpQuiet slP Sl.ex sep
attribute [local irreducible] anys anyP
def decR (bs ext : List UInt8) (ib : Nat) : Value → List HP → Prop := fun v B =>
  (∃ l a c acc, decN bs.length bs = .ok l ∧ acc.map Prod.snd = l ∧ acc.length ≤ bs.length ∧ (∀ p ∈ acc, p.1.oneCell' = true) ∧ v = .tuple #[.slice a acc.length c, .nilIface] ∧ B = [blk ib (cl (u8s ext) 5), slP (.slice a acc.length c) 20 1 (acc.map Prod.fst), anys acc]) ∨
  (decN bs.length bs = .bad ∧ B = [] ∧ ∃ p, v = .tuple #[.slice none 0 0, .iface 61 p])
def decE (bs : List UInt8) : List PanicEntry → List HP → Prop := fun c B => decN bs.length bs = .boom ∧ B = [] ∧ ∃ T v, c = [{ v := .iface T v, recovered := false }]
theorem wi (t : Nat) (h : t < 256) : IntKind.i64.wrap (t : Int) = (t : Int) := wrap_nn (by rw [max_i64]; omega)
theorem wu8 (t n : Nat) (h : t < 256) (hn : n ≤ t) : IntKind.i64.wrap (IntKind.u8.wrap ((t : Int) - (n : Nat))) = ((t - n : Nat) : Int) := by
  rw [show (t : Int) - (n : Nat) = ((t - n : Nat) : Int) by omega, show IntKind.u8.wrap ((t - n : Nat) : Int) = ((t - n : Nat) : Int) from wrap_nn (by rw [show IntKind.u8.max = 255 by decide]; omega)]
  exact wrap_nn (by rw [max_i64]; omega)
set_option maxHeartbeats 40000000 in
theorem DecodeScalars_c (bs ext : List UInt8) (ib : Nat) (h0 : bs ≠ []) (he : ext.take bs.length = bs) (hle : bs.length ≤ ext.length) (hm : bs.length ≤ 100000000000) (hmx : ext.length ≤ maxLen) :
    Ct Tryd.prog 13 #[.slice (some ⟨ib, 0, none⟩) bs.length ext.length] [blk ib (cl (u8s ext) 5)] (decR bs ext ib) (decE bs) := by
  have hpos : 0 < bs.length := List.length_pos_iff.2 h0
  have hml : 1000000000000 ≤ maxLen := by unfold maxLen; omega
  refine Ct.of Tryd.func13 rfl Tryd.ntmps13 rfl fun m F => ?_
  repeat (first | refine wW ?_ | intro b)
  refine c_scope (α := Option Addr × Nat × Nat) 0 (fun y => [(0, .slice y.1 y.2.1 y.2.2), (4, .slice (some ⟨ib, 0, none⟩) bs.length ext.length)]) (fun _ => blk ib (cl (u8s ext) 5) :: F) (fun y => decN bs.length bs = .bad ∧ y.2.1 ≤ bs.length) rfl ?_ ?_
  rotate_left
  · rintro ⟨ya, yl, yc⟩ ⟨hbad, hyl⟩
    dsimp only at hyl ⊢
    repeat (first | refine wW ?_ | intro b)
    refine l_plain rfl (s_appNil1 rfl rfl hpos (by simp) (rdn_part0 (rdn_all 0 rfl) he) rfl (by omega) (by omega) rfl ?_)
    intro nb c h1 h2
    repeat (first | refine wW ?_ | intro b)
    refine l_plain rfl ?_
    apply s_val rfl rfl
    · exact RunS.v (r_build (cells := #[.slice (some ⟨nb, 0, none⟩) bs.length c, .int .i64 ((bs.length : Int) - (yl : Int))]) rfl (by kernel_rfl))
    repeat (first | refine wW ?_ | intro b)
    exact e_ret2 [] rfl rfl rfl (.inr ⟨hbad, rfl, _, rfl⟩) (arr_ent 3 [] _)
  repeat (first | refine wW ?_ | intro b)
  refine c_loop (α := DSt) (fun x => x.env bs ext ib) (fun x => x.hp ext ib F) (fun x => x.inv bs ext ib) (fun x => x.len) ⟨0, bs.length, ext.length, some ⟨ib, 0, none⟩, none, 0, [], bs.length⟩ ⟨by simp, by simp, fun _ => rfl, by simp [DL.pre_nil], by simp, by simp, by simp⟩ ⟨rfl, rfl, rfl, trivial⟩ (Ent.cons (anys_nil.trans slP_nil)) ?_
  rintro ⟨off, len, cap, ia, oa, oc, acc, f⟩ hI
  have hI' := hI
  obtain ⟨a1, a2, a3, a4, a5, a6, a7⟩ := hI'
  dsimp only at a1 a2 a3 a4 a5 a6 a7
  simp only [DSt.env, DSt.hp]
  repeat (first | refine wW ?_ | intro b)
  refine c_cond rfl (fun h => ?_) (fun h => ?_)
  rotate_left
  · have hl : len = 0 := by simpa using h
    repeat (first | refine wW ?_ | intro b)
    refine G.ent (arr_ent 0 [1] _) ?_
    refine src_sl fun hs => ?_
    refine G.ent (slP_nil (e := 20) (size := 1)) ?_
    refine l_plain rfl (s_append (i := 0) rfl rfl rfl (hs.ent Ent.drop) rfl rfl (by simp) (by simpa using a7) (by omega) (by omega) rfl ?_)
    intro a c
    rw [Nat.zero_add, List.nil_append]
    repeat (first | refine wW ?_ | intro b)
    exact e_ret2 [blk ib (cl (u8s ext) 5), slP (.slice a acc.length c) 20 1 (acc.map Prod.fst), anys acc] rfl rfl rfl (.inl ⟨_, a, c, acc, inv_end hI hl, rfl, by omega, a7, rfl, rfl⟩) (arr_ent 1 [2, 0] _)
  have hl : 0 < len := by have : ¬ len = 0 := by simpa using h
                          omega
  have hia := a3 hl
  subst hia
  have hlen : (bs.drop off).length = len := by simp; omega
  have hget : ∀ i, i < len → (u8s ext)[off + i]? = some (Value.int IntKind.u8 (at1 (bs.drop off) i : Nat)) := fun i hi => ext_get he (by omega)
  repeat (first | refine wW ?_ | intro b)
  refine l_plain rfl ?_
  apply s_val rfl rfl
  · exact RunS.v (r_index (i := 0) rfl rfl rfl hl)
  rw [Nat.zero_mul]
  refine l_plain rfl ?_
  apply s_val rfl rfl
  · exact r_load rfl rfl (rd_blk 0 rfl (hget 0 hl))
  generalize ht : at1 (bs.drop off) 0 = t
  have htl : t < 256 := ht ▸ at1_lt _ _
  repeat (first | refine wW ?_ | intro b)
  refine c_cond rfl (fun h => ?_) (fun h => ?_)
  · have e := of_decide_eq_true h
    repeat (first | refine wW ?_ | intro b)
    refine l_plain rfl (s_append (i := 2) rfl rfl rfl (Src.some _ _ _ _ _ rfl (rdn_all 0 rfl)) rfl rfl (by simp) rfl (by omega) (by omega) rfl ?_)
    intro a c
    repeat (first | refine wW ?_ | intro b)
    refine l_plain rfl ?_
    apply s_val rfl rfl
    · exact RunS.v (r_slLo rfl rfl (by omega))
    repeat (first | refine wW ?_ | intro b)
    refine at_intro ⟨off + (1), _, _, _, a, c, acc ++ [(.nilIface, .nil)], f - 1⟩ ?_ ⟨rfl, by rw [List.length_append]; rfl, rfl, trivial⟩ (hp_next (p := (.nilIface, .nil)) (by unfold anyP; rfl) a c acc _ ib ext F _ _ _ _ _)
    exact inv_next hI hl (s := .nil) (n := 1) (by unfold dec1; simp only [ht]; rw [if_pos (by omega)]) (by omega) (by dsimp only; omega) _ rfl _ _ _ _ _ (by dsimp only; omega) (by dsimp only; omega) (fun _ => adv_at rfl (by omega))
  have e0 := of_decide_eq_false h
  repeat (first | refine wW ?_ | intro b)
  refine c_cond rfl (fun h => ?_) (fun h => ?_)
  · have e := of_decide_eq_true h
    repeat (first | refine wW ?_ | intro b)
    refine l_plain rfl (s_append (i := 2) rfl rfl rfl (Src.some _ _ _ _ _ rfl (rdn_all 0 rfl)) rfl rfl (by simp) rfl (by omega) (by omega) rfl ?_)
    intro a c
    repeat (first | refine wW ?_ | intro b)
    refine l_plain rfl ?_
    apply s_val rfl rfl
    · exact RunS.v (r_slLo rfl rfl (by omega))
    repeat (first | refine wW ?_ | intro b)
    refine at_intro ⟨off + (1), _, _, _, a, c, acc ++ [(.iface 4 (.bool false), .bool false)], f - 1⟩ ?_ ⟨rfl, by rw [List.length_append]; rfl, rfl, trivial⟩ (hp_next (p := (.iface 4 (.bool false), .bool false)) (by unfold anyP; rfl) a c acc _ ib ext F _ _ _ _ _)
    exact inv_next hI hl (s := .bool false) (n := 1) (by unfold dec1; simp only [ht]; rw [if_neg (by omega), if_pos (by omega)]) (by omega) (by dsimp only; omega) _ rfl _ _ _ _ _ (by dsimp only; omega) (by dsimp only; omega) (fun _ => adv_at rfl (by omega))
  have e1 := of_decide_eq_false h
  repeat (first | refine wW ?_ | intro b)
  refine c_cond rfl (fun h => ?_) (fun h => ?_)
  · have e := of_decide_eq_true h
    repeat (first | refine wW ?_ | intro b)
    refine l_plain rfl (s_append (i := 2) rfl rfl rfl (Src.some _ _ _ _ _ rfl (rdn_all 0 rfl)) rfl rfl (by simp) rfl (by omega) (by omega) rfl ?_)
    intro a c
    repeat (first | refine wW ?_ | intro b)
    refine l_plain rfl ?_
    apply s_val rfl rfl
    · exact RunS.v (r_slLo rfl rfl (by omega))
    repeat (first | refine wW ?_ | intro b)
    refine at_intro ⟨off + (1), _, _, _, a, c, acc ++ [(.iface 4 (.bool true), .bool true)], f - 1⟩ ?_ ⟨rfl, by rw [List.length_append]; rfl, rfl, trivial⟩ (hp_next (p := (.iface 4 (.bool true), .bool true)) (by unfold anyP; rfl) a c acc _ ib ext F _ _ _ _ _)
    exact inv_next hI hl (s := .bool true) (n := 1) (by unfold dec1; simp only [ht]; rw [if_neg (by omega), if_neg (by omega), if_pos (by omega)]) (by omega) (by dsimp only; omega) _ rfl _ _ _ _ _ (by dsimp only; omega) (by dsimp only; omega) (fun _ => adv_at rfl (by omega))
  have e2 := of_decide_eq_false h
  repeat (first | refine wW ?_ | intro b)
  refine c_cond rfl (fun h => ?_) (fun h => ?_)
  · have e := of_decide_eq_true h
    repeat (first | refine wW ?_ | intro b)
    refine l_plain rfl (s_append (i := 2) rfl rfl rfl (Src.some _ _ _ _ _ rfl (rdn_all 0 rfl)) rfl rfl (by simp) rfl (by omega) (by omega) rfl ?_)
    intro a c
    repeat (first | refine wW ?_ | intro b)
    refine l_plain rfl ?_
    apply s_val rfl rfl
    · exact RunS.v (r_slLo rfl rfl (by omega))
    repeat (first | refine wW ?_ | intro b)
    refine at_intro ⟨off + (1), _, _, _, a, c, acc ++ [(.iface 57 (.float .f64 0), .f64 0)], f - 1⟩ ?_ ⟨rfl, by rw [List.length_append]; rfl, rfl, trivial⟩ (hp_next (p := (.iface 57 (.float .f64 0), .f64 0)) (by unfold anyP; rfl) a c acc _ ib ext F _ _ _ _ _)
    exact inv_next hI hl (s := .f64 0) (n := 1) (by unfold dec1; simp only [ht]; rw [if_neg (by omega), if_neg (by omega), if_neg (by omega), if_pos (by omega)]) (by omega) (by dsimp only; omega) _ rfl _ _ _ _ _ (by dsimp only; omega) (by dsimp only; omega) (fun _ => adv_at rfl (by omega))
  have e3 := of_decide_eq_false h
  refine c_cut (α := Bool) (fun y => [(0, .slice (some ⟨ib, off, none⟩) len cap), (2, .slice oa acc.length oc), (4, .slice (some ⟨ib, 0, none⟩) bs.length ext.length), (5, .int .u8 (t : Nat)), (34, .int .u8 (t : Nat)), (77, .bool y)]) (fun _ => blk ib (cl (u8s ext) 5) :: slP (.slice oa acc.length oc) 20 1 (acc.map Prod.fst) :: anys acc :: F) (fun y => y = true ↔ 4 ≤ t ∧ t ≤ 11) ?_ ?_
  · repeat (first | refine wW ?_ | intro b)
    refine c_cond rfl (fun h => ?_) (fun h => ?_)
    · have e := of_decide_eq_true h
      repeat (first | refine wW ?_ | intro b)
      exact at_intro _ ⟨fun _ => by omega, fun _ => h⟩ ⟨rfl, rfl, rfl, rfl, rfl, rfl, trivial⟩ (Ent.refl _)
    have g4 := of_decide_eq_false h
    repeat (first | refine wW ?_ | intro b)
    refine c_cond rfl (fun h => ?_) (fun h => ?_)
    · have e := of_decide_eq_true h
      repeat (first | refine wW ?_ | intro b)
      exact at_intro _ ⟨fun _ => by omega, fun _ => h⟩ ⟨rfl, rfl, rfl, rfl, rfl, rfl, trivial⟩ (Ent.refl _)
    have g5 := of_decide_eq_false h
    repeat (first | refine wW ?_ | intro b)
    refine c_cond rfl (fun h => ?_) (fun h => ?_)
    · have e := of_decide_eq_true h
      repeat (first | refine wW ?_ | intro b)
      exact at_intro _ ⟨fun _ => by omega, fun _ => h⟩ ⟨rfl, rfl, rfl, rfl, rfl, rfl, trivial⟩ (Ent.refl _)
    have g6 := of_decide_eq_false h
    repeat (first | refine wW ?_ | intro b)
    refine c_cond rfl (fun h => ?_) (fun h => ?_)
    · have e := of_decide_eq_true h
      repeat (first | refine wW ?_ | intro b)
      exact at_intro _ ⟨fun _ => by omega, fun _ => h⟩ ⟨rfl, rfl, rfl, rfl, rfl, rfl, trivial⟩ (Ent.refl _)
    have g7 := of_decide_eq_false h
    repeat (first | refine wW ?_ | intro b)
    refine c_cond rfl (fun h => ?_) (fun h => ?_)
    · have e := of_decide_eq_true h
      repeat (first | refine wW ?_ | intro b)
      exact at_intro _ ⟨fun _ => by omega, fun _ => h⟩ ⟨rfl, rfl, rfl, rfl, rfl, rfl, trivial⟩ (Ent.refl _)
    have g8 := of_decide_eq_false h
    repeat (first | refine wW ?_ | intro b)
    refine c_cond rfl (fun h => ?_) (fun h => ?_)
    · have e := of_decide_eq_true h
      repeat (first | refine wW ?_ | intro b)
      exact at_intro _ ⟨fun _ => by omega, fun _ => h⟩ ⟨rfl, rfl, rfl, rfl, rfl, rfl, trivial⟩ (Ent.refl _)
    have g9 := of_decide_eq_false h
    repeat (first | refine wW ?_ | intro b)
    refine c_cond rfl (fun h => ?_) (fun h => ?_)
    · have e := of_decide_eq_true h
      repeat (first | refine wW ?_ | intro b)
      exact at_intro _ ⟨fun _ => by omega, fun _ => h⟩ ⟨rfl, rfl, rfl, rfl, rfl, rfl, trivial⟩ (Ent.refl _)
    have g10 := of_decide_eq_false h
    repeat (first | refine wW ?_ | intro b)
    exact at_intro _ ⟨fun h => by have := of_decide_eq_true h; omega, fun _ => decide_eq_true (by omega)⟩ ⟨rfl, rfl, rfl, rfl, rfl, rfl, trivial⟩ (Ent.refl _)
  rintro y hy
  by_cases eg4 : t ≤ 11
  · have hy' : y = true := hy.2 (by omega)
    subst hy'
    refine c_condT rfl ?_
    repeat (first | refine wW ?_ | intro b)
    rw [wi t htl]
    repeat (first | refine wW ?_ | intro b)
    refine c_cond rfl (fun h => ?_) (fun h => ?_)
    · have h := of_decide_eq_true h
      repeat (first | refine wW ?_ | intro b)
      exact at_intro (some ⟨ib, off, none⟩, len, cap) ⟨inv_bad hI hl (by unfold dec1; simp only [ht]; rw [if_neg (by omega), if_neg (by omega), if_neg (by omega), if_neg (by omega), if_pos (by omega)]; rw [if_pos (by omega)]), by dsimp only; omega⟩ ⟨rfl, rfl, trivial⟩ (arr_ent 2 [0] _)
    have h := of_decide_eq_false h
    repeat (first | refine wW ?_ | intro b)
    by_cases hc : t - 2 ≤ cap
    · have hsrc := ext_src (L := blk ib (cl (u8s ext) 5) :: []) (bs := bs) (rdn_all 0 rfl) (off + 1) (t - 3) (cap - 1) (by omega)
      refine l_plain rfl ?_
      apply s_val rfl rfl
      · exact RunS.v (r_slLH rfl rfl rfl (by omega) (by omega))
      rw [adv_at (n := 1) rfl (by omega), show (1 + (t : Int) - 3).toNat - (1 : Int).toNat = t - 3 by omega, show cap - (1 : Int).toNat = cap - 1 from rfl]
      refine l_plain rfl (s_call rfl rfl (decodeFloat_c _ _ _ _ hsrc (by omega)) [0] rfl ?_ (fun _ _ h => h.elim))
      rintro _ _ ⟨rfl, rfl⟩
      repeat (first | refine wW ?_ | intro b)
      refine l_plain rfl (s_append (i := 2) rfl rfl rfl (Src.some _ _ _ _ _ rfl (rdn_all 0 rfl)) rfl rfl (by simp) rfl (by omega) (by omega) rfl ?_)
      intro a c
      repeat (first | refine wW ?_ | intro b)
      by_cases hb : t - 2 ≤ len
      · refine l_plain rfl ?_
        apply s_val rfl rfl
        · exact RunS.v (r_slLo rfl rfl (by omega))
        repeat (first | refine wW ?_ | intro b)
        have hfl : fs ((ext.drop (off + 1)).take (t - 3)) (t - 3) = flt (bs.drop off) (t - 2) := by unfold flt; rw [ext_list he (by omega), show t - 2 - 1 = t - 3 by omega]
        rw [hfl]
        refine at_intro ⟨off + (t - 2), _, _, _, a, c, acc ++ [(.iface 57 (.float .f64 (flt (bs.drop off) (t - 2))), .f64 (flt (bs.drop off) (t - 2)))], f - 1⟩ ?_ ⟨rfl, by rw [List.length_append]; rfl, rfl, trivial⟩ (hp_next (p := (.iface 57 (.float .f64 (flt (bs.drop off) (t - 2))), .f64 (flt (bs.drop off) (t - 2)))) (by unfold anyP; rfl) a c acc _ ib ext F _ _ _ _ _)
        exact inv_next hI hl (s := .f64 (flt (bs.drop off) (t - 2))) (n := t - 2) (by unfold dec1; simp only [ht]; rw [if_neg (by omega), if_neg (by omega), if_neg (by omega), if_neg (by omega), if_pos (by omega)]; rw [if_neg (by omega), if_neg (by omega)]) (by omega) (by dsimp only; omega) _ rfl _ _ _ _ _ (by dsimp only; omega) (by dsimp only; omega) (fun _ => adv_at (by omega) (by omega))
      refine l_plain rfl (s_slLoPan rfl rfl (by omega) fun T v => ?_)
      repeat (first | refine wW ?_ | intro b)
      exact e_pan [] ⟨inv_boom hI hl (by unfold dec1; simp only [ht]; rw [if_neg (by omega), if_neg (by omega), if_neg (by omega), if_neg (by omega), if_pos (by omega)]; rw [if_neg (by omega), if_pos (by omega)]), rfl, T, v, rfl⟩ (arr_ent 4 [] _)
    refine l_plain rfl (s_slLHPan rfl rfl rfl (by omega) fun T v => ?_)
    repeat (first | refine wW ?_ | intro b)
    exact e_pan [] ⟨inv_boom hI hl (by unfold dec1; simp only [ht]; rw [if_neg (by omega), if_neg (by omega), if_neg (by omega), if_neg (by omega), if_pos (by omega)]; rw [if_neg (by omega), if_pos (by omega)]), rfl, T, v, rfl⟩ (arr_ent 3 [] _)
  have hy' : y = false := by
    cases y
    · rfl
    · exact absurd (hy.1 rfl).2 eg4
  subst hy'
  refine c_condF rfl ?_
  refine c_cut (α := Bool) (fun y => [(0, .slice (some ⟨ib, off, none⟩) len cap), (2, .slice oa acc.length oc), (4, .slice (some ⟨ib, 0, none⟩) bs.length ext.length), (5, .int .u8 (t : Nat)), (34, .int .u8 (t : Nat)), (106, .bool y)]) (fun _ => blk ib (cl (u8s ext) 5) :: slP (.slice oa acc.length oc) 20 1 (acc.map Prod.fst) :: anys acc :: F) (fun y => y = true ↔ 12 ≤ t ∧ t ≤ 20) ?_ ?_
  · repeat (first | refine wW ?_ | intro b)
    refine c_cond rfl (fun h => ?_) (fun h => ?_)
    · have e := of_decide_eq_true h
      repeat (first | refine wW ?_ | intro b)
      exact at_intro _ ⟨fun _ => by omega, fun _ => h⟩ ⟨rfl, rfl, rfl, rfl, rfl, rfl, trivial⟩ (Ent.refl _)
    have g12 := of_decide_eq_false h
    repeat (first | refine wW ?_ | intro b)
    refine c_cond rfl (fun h => ?_) (fun h => ?_)
    · have e := of_decide_eq_true h
      repeat (first | refine wW ?_ | intro b)
      exact at_intro _ ⟨fun _ => by omega, fun _ => h⟩ ⟨rfl, rfl, rfl, rfl, rfl, rfl, trivial⟩ (Ent.refl _)
    have g13 := of_decide_eq_false h
    repeat (first | refine wW ?_ | intro b)
    refine c_cond rfl (fun h => ?_) (fun h => ?_)
    · have e := of_decide_eq_true h
      repeat (first | refine wW ?_ | intro b)
      exact at_intro _ ⟨fun _ => by omega, fun _ => h⟩ ⟨rfl, rfl, rfl, rfl, rfl, rfl, trivial⟩ (Ent.refl _)
    have g14 := of_decide_eq_false h
    repeat (first | refine wW ?_ | intro b)
    refine c_cond rfl (fun h => ?_) (fun h => ?_)
    · have e := of_decide_eq_true h
      repeat (first | refine wW ?_ | intro b)
      exact at_intro _ ⟨fun _ => by omega, fun _ => h⟩ ⟨rfl, rfl, rfl, rfl, rfl, rfl, trivial⟩ (Ent.refl _)
    have g15 := of_decide_eq_false h
    repeat (first | refine wW ?_ | intro b)
    refine c_cond rfl (fun h => ?_) (fun h => ?_)
    · have e := of_decide_eq_true h
      repeat (first | refine wW ?_ | intro b)
      exact at_intro _ ⟨fun _ => by omega, fun _ => h⟩ ⟨rfl, rfl, rfl, rfl, rfl, rfl, trivial⟩ (Ent.refl _)
    have g16 := of_decide_eq_false h
    repeat (first | refine wW ?_ | intro b)
    refine c_cond rfl (fun h => ?_) (fun h => ?_)
    · have e := of_decide_eq_true h
      repeat (first | refine wW ?_ | intro b)
      exact at_intro _ ⟨fun _ => by omega, fun _ => h⟩ ⟨rfl, rfl, rfl, rfl, rfl, rfl, trivial⟩ (Ent.refl _)
    have g17 := of_decide_eq_false h
    repeat (first | refine wW ?_ | intro b)
    refine c_cond rfl (fun h => ?_) (fun h => ?_)
    · have e := of_decide_eq_true h
      repeat (first | refine wW ?_ | intro b)
      exact at_intro _ ⟨fun _ => by omega, fun _ => h⟩ ⟨rfl, rfl, rfl, rfl, rfl, rfl, trivial⟩ (Ent.refl _)
    have g18 := of_decide_eq_false h
    repeat (first | refine wW ?_ | intro b)
    refine c_cond rfl (fun h => ?_) (fun h => ?_)
    · have e := of_decide_eq_true h
      repeat (first | refine wW ?_ | intro b)
      exact at_intro _ ⟨fun _ => by omega, fun _ => h⟩ ⟨rfl, rfl, rfl, rfl, rfl, rfl, trivial⟩ (Ent.refl _)
    have g19 := of_decide_eq_false h
    repeat (first | refine wW ?_ | intro b)
    exact at_intro _ ⟨fun h => by have := of_decide_eq_true h; omega, fun _ => decide_eq_true (by omega)⟩ ⟨rfl, rfl, rfl, rfl, rfl, rfl, trivial⟩ (Ent.refl _)
  rintro y hy
  by_cases eg5 : t ≤ 20
  · have hy' : y = true := hy.2 (by omega)
    subst hy'
    refine c_condT rfl ?_
    repeat (first | refine wW ?_ | intro b)
    rw [wi t htl]
    repeat (first | refine wW ?_ | intro b)
    refine c_cond rfl (fun h => ?_) (fun h => ?_)
    · have h := of_decide_eq_true h
      repeat (first | refine wW ?_ | intro b)
      exact at_intro (_, _, _) ⟨inv_bad hI hl (by unfold dec1; simp only [ht]; rw [if_neg (by omega), if_neg (by omega), if_neg (by omega), if_neg (by omega), if_neg (by omega), if_pos (by omega)]; rw [if_pos (by omega)]), by dsimp only; omega⟩ ⟨rfl, rfl, trivial⟩ (arr_ent 2 [0] _)
    have h := of_decide_eq_false h
    repeat (first | refine wW ?_ | intro b)
    by_cases hc : t - 11 ≤ cap
    rotate_left
    · refine l_plain rfl (s_slLHPan rfl rfl rfl (by omega) fun T v => ?_)
      repeat (first | refine wW ?_ | intro b)
      exact e_pan [] ⟨inv_boom hI hl (by unfold dec1; simp only [ht]; rw [if_neg (by omega), if_neg (by omega), if_neg (by omega), if_neg (by omega), if_neg (by omega), if_pos (by omega)]; rw [if_neg (by omega), if_pos (by omega)]), rfl, T, v, rfl⟩ (arr_ent 3 [] _)
    have hsrc := src_if (L := blk ib (cl (u8s ext) 5) :: []) (ext := ext) (rdn_all 0 rfl) off 1 (t - 12) cap (cap - 1) 1 rfl (by omega) (by omega)
    refine l_plain rfl ?_
    apply s_val rfl rfl
    · exact RunS.v (r_slLH rfl rfl rfl (by omega) (by omega))
    rw [show (1 + (t : Int) - 12).toNat - (1 : Int).toNat = t - 12 by omega, show cap - (1 : Int).toNat = cap - 1 from rfl]
    refine l_plain rfl (s_call rfl rfl (decodeFloat_c _ _ _ _ hsrc (by omega)) [0] rfl ?_ (fun _ _ h => h.elim))
    rintro _ _ ⟨rfl, rfl⟩
    repeat (first | refine wW ?_ | intro b)
    by_cases hb : t - 11 ≤ len
    rotate_left
    · refine l_plain rfl (s_slLoPan rfl rfl (by omega) fun T v => ?_)
      repeat (first | refine wW ?_ | intro b)
      exact e_pan [] ⟨inv_boom hI hl (by unfold dec1; simp only [ht]; rw [if_neg (by omega), if_neg (by omega), if_neg (by omega), if_neg (by omega), if_neg (by omega), if_pos (by omega)]; rw [if_neg (by omega), if_pos (by omega)]), rfl, T, v, rfl⟩ (arr_ent 3 [] _)
    refine l_plain rfl ?_
    apply s_val rfl rfl
    · exact RunS.v (r_slLo rfl rfl (by omega))
    have hfl : fs ((ext.drop (off + 1)).take (t - 12)) (t - 12) = flt (bs.drop off) (t - 11) := by unfold flt; rw [ext_list he (by omega), show t - 11 - 1 = t - 12 by omega]
    rw [hfl]
    obtain ⟨r, hr⟩ : ∃ r, r = (bs.drop off).drop (t - 11) := ⟨_, rfl⟩
    have hrl : r.length = len - (t - 11) := by rw [hr, List.length_drop, hlen]
    repeat (first | refine wW ?_ | intro b)
    refine c_cond rfl (fun h2 => ?_) (fun h2 => ?_)
    · have h2 := of_decide_eq_true h2
      repeat (first | refine wW ?_ | intro b)
      exact at_intro (_, _, _) ⟨inv_bad hI hl (by unfold dec1; simp only [ht]; rw [if_neg (by omega), if_neg (by omega), if_neg (by omega), if_neg (by omega), if_neg (by omega), if_pos (by omega)]; rw [if_neg (by omega), if_neg (by omega), ← hr, if_pos (by omega)]), by dsimp only; omega⟩ ⟨rfl, rfl, trivial⟩ (arr_ent 2 [0] _)
    have h2 := of_decide_eq_false h2
    rw [adv_at (n := t - 11) (by omega) (by omega), show (1 + (t : Int) - 12).toNat = t - 11 by omega]
    have hget2 : ∀ i, i < len - (t - 11) → (u8s ext)[off + (t - 11) + i]? = some (Value.int IntKind.u8 (at1 r i : Nat)) := fun i hi => by rw [hr, List.drop_drop]; exact ext_get he (by omega)
    repeat (first | refine wW ?_ | intro b)
    refine l_plain rfl ?_
    apply s_val rfl rfl
    · exact RunS.v (r_index (i := 0) rfl rfl rfl (by omega))
    rw [Nat.zero_mul]
    refine l_plain rfl ?_
    apply s_val rfl rfl
    · exact r_load rfl rfl (rd_blk 0 rfl (hget2 0 (by omega)))
    generalize ht2 : at1 r 0 = u
    have hul : u < 256 := ht2 ▸ at1_lt _ _
    repeat (first | refine wW ?_ | intro b)
    by_cases hu1 : u < 12
    · rw [show decide ((u : Int) < 12) = true from decide_eq_true (by omega)]
      repeat (first | refine wW ?_ | intro b)
      repeat (first | refine wW ?_ | intro b)
      exact at_intro (_, _, _) ⟨inv_bad hI hl (by unfold dec1; simp only [ht]; rw [if_neg (by omega), if_neg (by omega), if_neg (by omega), if_neg (by omega), if_neg (by omega), if_pos (by omega)]; rw [if_neg (by omega), if_neg (by omega), ← hr, if_neg (by omega), ht2, if_pos (by omega)]), by dsimp only; omega⟩ ⟨rfl, rfl, trivial⟩ (arr_ent 2 [0] _)
    rw [show decide ((u : Int) < 12) = false from decide_eq_false (by omega)]
    repeat (first | refine wW ?_ | intro b)
    refine c_cond rfl (fun h3 => ?_) (fun h3 => ?_)
    · have h3 := of_decide_eq_true h3
      repeat (first | refine wW ?_ | intro b)
      exact at_intro (_, _, _) ⟨inv_bad hI hl (by unfold dec1; simp only [ht]; rw [if_neg (by omega), if_neg (by omega), if_neg (by omega), if_neg (by omega), if_neg (by omega), if_pos (by omega)]; rw [if_neg (by omega), if_neg (by omega), ← hr, if_neg (by omega), ht2, if_pos (by omega)]), by dsimp only; omega⟩ ⟨rfl, rfl, trivial⟩ (arr_ent 2 [0] _)
    have h3 := of_decide_eq_false h3
    repeat (first | refine wW ?_ | intro b)
    rw [wi u hul]
    repeat (first | refine wW ?_ | intro b)
    refine c_cond rfl (fun h4 => ?_) (fun h4 => ?_)
    · have h4 := of_decide_eq_true h4
      repeat (first | refine wW ?_ | intro b)
      exact at_intro (_, _, _) ⟨inv_bad hI hl (by unfold dec1; simp only [ht]; rw [if_neg (by omega), if_neg (by omega), if_neg (by omega), if_neg (by omega), if_neg (by omega), if_pos (by omega)]; rw [if_neg (by omega), if_neg (by omega), ← hr, if_neg (by omega), ht2, if_neg (by omega), if_pos (by omega)]), by dsimp only; omega⟩ ⟨rfl, rfl, trivial⟩ (arr_ent 2 [0] _)
    have h4 := of_decide_eq_false h4
    repeat (first | refine wW ?_ | intro b)
    by_cases hc2 : u - 11 ≤ cap - (t - 11)
    rotate_left
    · refine l_plain rfl (s_slLHPan rfl rfl rfl (by omega) fun T v => ?_)
      repeat (first | refine wW ?_ | intro b)
      exact e_pan [] ⟨inv_boom hI hl (by unfold dec1; simp only [ht]; rw [if_neg (by omega), if_neg (by omega), if_neg (by omega), if_neg (by omega), if_neg (by omega), if_pos (by omega)]; rw [if_neg (by omega), if_neg (by omega), ← hr, if_neg (by omega), ht2, if_neg (by omega), if_neg (by omega), if_pos (by omega)]), rfl, T, v, rfl⟩ (arr_ent 3 [] _)
    have hsrc2 := src_if (L := blk ib (cl (u8s ext) 5) :: []) (ext := ext) (rdn_all 0 rfl) (off + (t - 11)) 1 (u - 12) (cap - (t - 11)) (cap - (t - 11) - 1) 1 rfl (by omega) (by omega)
    refine l_plain rfl ?_
    apply s_val rfl rfl
    · exact RunS.v (r_slLH rfl rfl rfl (by omega) (by omega))
    rw [show (1 + (u : Int) - 12).toNat - (1 : Int).toNat = u - 12 by omega, show cap - (t - 11) - (1 : Int).toNat = cap - (t - 11) - 1 from rfl]
    refine l_plain rfl (s_call rfl rfl (decodeFloat_c _ _ _ _ hsrc2 (by omega)) [0] rfl ?_ (fun _ _ h => h.elim))
    rintro _ _ ⟨rfl, rfl⟩
    repeat (first | refine wW ?_ | intro b)
    refine l_plain rfl (s_append (i := 2) rfl rfl rfl (Src.some _ _ _ _ _ rfl (rdn_all 0 rfl)) rfl rfl (by simp) rfl (by omega) (by omega) rfl ?_)
    intro a c
    repeat (first | refine wW ?_ | intro b)
    by_cases hb2 : u - 11 ≤ len - (t - 11)
    rotate_left
    · refine l_plain rfl (s_slLoPan rfl rfl (by omega) fun T v => ?_)
      repeat (first | refine wW ?_ | intro b)
      exact e_pan [] ⟨inv_boom hI hl (by unfold dec1; simp only [ht]; rw [if_neg (by omega), if_neg (by omega), if_neg (by omega), if_neg (by omega), if_neg (by omega), if_pos (by omega)]; rw [if_neg (by omega), if_neg (by omega), ← hr, if_neg (by omega), ht2, if_neg (by omega), if_neg (by omega), if_pos (by omega)]), rfl, T, v, rfl⟩ (arr_ent 4 [] _)
    refine l_plain rfl ?_
    apply s_val rfl rfl
    · exact RunS.v (r_slLo rfl rfl (by omega))
    have hfl2 : fs ((ext.drop (off + (t - 11) + 1)).take (u - 12)) (u - 12) = flt r (u - 11) := by unfold flt; rw [ext_list he (by omega), show r = bs.drop (off + (t - 11)) from by rw [hr, List.drop_drop], show u - 11 - 1 = u - 12 by omega]
    rw [hfl2]
    repeat (first | refine wW ?_ | intro b)
    refine at_intro ⟨off + (t - 11 + (u - 11)), _, _, _, a, c, acc ++ [(.iface 59 (.complex .f64 (flt (bs.drop off) (t - 11)) (flt r (u - 11))), .c128 (flt (bs.drop off) (t - 11)) (flt r (u - 11)))], f - 1⟩ ?_ ⟨rfl, by rw [List.length_append]; rfl, rfl, trivial⟩ (hp_next (p := (.iface 59 (.complex .f64 (flt (bs.drop off) (t - 11)) (flt r (u - 11))), .c128 (flt (bs.drop off) (t - 11)) (flt r (u - 11)))) (by unfold anyP; rfl) a c acc _ ib ext F _ _ _ _ _)
    exact inv_next hI hl (s := .c128 (flt (bs.drop off) (t - 11)) (flt r (u - 11))) (n := t - 11 + (u - 11)) (by unfold dec1; simp only [ht]; rw [if_neg (by omega), if_neg (by omega), if_neg (by omega), if_neg (by omega), if_neg (by omega), if_pos (by omega)]; rw [if_neg (by omega), if_neg (by omega), ← hr, if_neg (by omega), ht2, if_neg (by omega), if_neg (by omega), if_neg (by omega), ← List.drop_drop, ← hr]) (by omega) (by dsimp only; omega) _ rfl _ _ _ _ _ (by dsimp only; omega) (by dsimp only; omega) (fun hh => adv1 (k := u - 11) (by omega) (by omega) (by dsimp only <;> omega))
  have hy' : y = false := by
    cases y
    · rfl
    · exact absurd (hy.1 rfl).2 eg5
  subst hy'
  refine c_condF rfl ?_
  refine c_cut (α := Bool) (fun y => [(0, .slice (some ⟨ib, off, none⟩) len cap), (2, .slice oa acc.length oc), (4, .slice (some ⟨ib, 0, none⟩) bs.length ext.length), (5, .int .u8 (t : Nat)), (34, .int .u8 (t : Nat)), (166, .bool y)]) (fun _ => blk ib (cl (u8s ext) 5) :: slP (.slice oa acc.length oc) 20 1 (acc.map Prod.fst) :: anys acc :: F) (fun y => y = true ↔ 21 ≤ t ∧ t ≤ 38) ?_ ?_
  · repeat (first | refine wW ?_ | intro b)
    refine c_cond rfl (fun h => ?_) (fun h => ?_)
    · have e := of_decide_eq_true h
      repeat (first | refine wW ?_ | intro b)
      exact at_intro _ ⟨fun _ => by omega, fun _ => h⟩ ⟨rfl, rfl, rfl, rfl, rfl, rfl, trivial⟩ (Ent.refl _)
    have g21 := of_decide_eq_false h
    repeat (first | refine wW ?_ | intro b)
    refine c_cond rfl (fun h => ?_) (fun h => ?_)
    · have e := of_decide_eq_true h
      repeat (first | refine wW ?_ | intro b)
      exact at_intro _ ⟨fun _ => by omega, fun _ => h⟩ ⟨rfl, rfl, rfl, rfl, rfl, rfl, trivial⟩ (Ent.refl _)
    have g22 := of_decide_eq_false h
    repeat (first | refine wW ?_ | intro b)
    refine c_cond rfl (fun h => ?_) (fun h => ?_)
    · have e := of_decide_eq_true h
      repeat (first | refine wW ?_ | intro b)
      exact at_intro _ ⟨fun _ => by omega, fun _ => h⟩ ⟨rfl, rfl, rfl, rfl, rfl, rfl, trivial⟩ (Ent.refl _)
    have g23 := of_decide_eq_false h
    repeat (first | refine wW ?_ | intro b)
    refine c_cond rfl (fun h => ?_) (fun h => ?_)
    · have e := of_decide_eq_true h
      repeat (first | refine wW ?_ | intro b)
      exact at_intro _ ⟨fun _ => by omega, fun _ => h⟩ ⟨rfl, rfl, rfl, rfl, rfl, rfl, trivial⟩ (Ent.refl _)
    have g24 := of_decide_eq_false h
    repeat (first | refine wW ?_ | intro b)
    refine c_cond rfl (fun h => ?_) (fun h => ?_)
    · have e := of_decide_eq_true h
      repeat (first | refine wW ?_ | intro b)
      exact at_intro _ ⟨fun _ => by omega, fun _ => h⟩ ⟨rfl, rfl, rfl, rfl, rfl, rfl, trivial⟩ (Ent.refl _)
    have g25 := of_decide_eq_false h
    repeat (first | refine wW ?_ | intro b)
    refine c_cond rfl (fun h => ?_) (fun h => ?_)
    · have e := of_decide_eq_true h
      repeat (first | refine wW ?_ | intro b)
      exact at_intro _ ⟨fun _ => by omega, fun _ => h⟩ ⟨rfl, rfl, rfl, rfl, rfl, rfl, trivial⟩ (Ent.refl _)
    have g26 := of_decide_eq_false h
    repeat (first | refine wW ?_ | intro b)
    refine c_cond rfl (fun h => ?_) (fun h => ?_)
    · have e := of_decide_eq_true h
      repeat (first | refine wW ?_ | intro b)
      exact at_intro _ ⟨fun _ => by omega, fun _ => h⟩ ⟨rfl, rfl, rfl, rfl, rfl, rfl, trivial⟩ (Ent.refl _)
    have g27 := of_decide_eq_false h
    repeat (first | refine wW ?_ | intro b)
    refine c_cond rfl (fun h => ?_) (fun h => ?_)
    · have e := of_decide_eq_true h
      repeat (first | refine wW ?_ | intro b)
      exact at_intro _ ⟨fun _ => by omega, fun _ => h⟩ ⟨rfl, rfl, rfl, rfl, rfl, rfl, trivial⟩ (Ent.refl _)
    have g28 := of_decide_eq_false h
    repeat (first | refine wW ?_ | intro b)
    refine c_cond rfl (fun h => ?_) (fun h => ?_)
    · have e := of_decide_eq_true h
      repeat (first | refine wW ?_ | intro b)
      exact at_intro _ ⟨fun _ => by omega, fun _ => h⟩ ⟨rfl, rfl, rfl, rfl, rfl, rfl, trivial⟩ (Ent.refl _)
    have g29 := of_decide_eq_false h
    repeat (first | refine wW ?_ | intro b)
    refine c_cond rfl (fun h => ?_) (fun h => ?_)
    · have e := of_decide_eq_true h
      repeat (first | refine wW ?_ | intro b)
      exact at_intro _ ⟨fun _ => by omega, fun _ => h⟩ ⟨rfl, rfl, rfl, rfl, rfl, rfl, trivial⟩ (Ent.refl _)
    have g30 := of_decide_eq_false h
    repeat (first | refine wW ?_ | intro b)
    refine c_cond rfl (fun h => ?_) (fun h => ?_)
    · have e := of_decide_eq_true h
      repeat (first | refine wW ?_ | intro b)
      exact at_intro _ ⟨fun _ => by omega, fun _ => h⟩ ⟨rfl, rfl, rfl, rfl, rfl, rfl, trivial⟩ (Ent.refl _)
    have g31 := of_decide_eq_false h
    repeat (first | refine wW ?_ | intro b)
    refine c_cond rfl (fun h => ?_) (fun h => ?_)
    · have e := of_decide_eq_true h
      repeat (first | refine wW ?_ | intro b)
      exact at_intro _ ⟨fun _ => by omega, fun _ => h⟩ ⟨rfl, rfl, rfl, rfl, rfl, rfl, trivial⟩ (Ent.refl _)
    have g32 := of_decide_eq_false h
    repeat (first | refine wW ?_ | intro b)
    refine c_cond rfl (fun h => ?_) (fun h => ?_)
    · have e := of_decide_eq_true h
      repeat (first | refine wW ?_ | intro b)
      exact at_intro _ ⟨fun _ => by omega, fun _ => h⟩ ⟨rfl, rfl, rfl, rfl, rfl, rfl, trivial⟩ (Ent.refl _)
    have g33 := of_decide_eq_false h
    repeat (first | refine wW ?_ | intro b)
    refine c_cond rfl (fun h => ?_) (fun h => ?_)
    · have e := of_decide_eq_true h
      repeat (first | refine wW ?_ | intro b)
      exact at_intro _ ⟨fun _ => by omega, fun _ => h⟩ ⟨rfl, rfl, rfl, rfl, rfl, rfl, trivial⟩ (Ent.refl _)
    have g34 := of_decide_eq_false h
    repeat (first | refine wW ?_ | intro b)
    refine c_cond rfl (fun h => ?_) (fun h => ?_)
    · have e := of_decide_eq_true h
      repeat (first | refine wW ?_ | intro b)
      exact at_intro _ ⟨fun _ => by omega, fun _ => h⟩ ⟨rfl, rfl, rfl, rfl, rfl, rfl, trivial⟩ (Ent.refl _)
    have g35 := of_decide_eq_false h
    repeat (first | refine wW ?_ | intro b)
    refine c_cond rfl (fun h => ?_) (fun h => ?_)
    · have e := of_decide_eq_true h
      repeat (first | refine wW ?_ | intro b)
      exact at_intro _ ⟨fun _ => by omega, fun _ => h⟩ ⟨rfl, rfl, rfl, rfl, rfl, rfl, trivial⟩ (Ent.refl _)
    have g36 := of_decide_eq_false h
    repeat (first | refine wW ?_ | intro b)
    refine c_cond rfl (fun h => ?_) (fun h => ?_)
    · have e := of_decide_eq_true h
      repeat (first | refine wW ?_ | intro b)
      exact at_intro _ ⟨fun _ => by omega, fun _ => h⟩ ⟨rfl, rfl, rfl, rfl, rfl, rfl, trivial⟩ (Ent.refl _)
    have g37 := of_decide_eq_false h
    repeat (first | refine wW ?_ | intro b)
    exact at_intro _ ⟨fun h => by have := of_decide_eq_true h; omega, fun _ => decide_eq_true (by omega)⟩ ⟨rfl, rfl, rfl, rfl, rfl, rfl, trivial⟩ (Ent.refl _)
  rintro y hy
  by_cases eg6 : t ≤ 38
  · have hy' : y = true := hy.2 (by omega)
    subst hy'
    refine c_condT rfl ?_
    repeat (first | refine wW ?_ | intro b)
    refine l_plain rfl ?_
    apply s_val rfl rfl
    · exact RunS.v (r_sub rfl rfl)
    repeat (first | refine wW ?_ | intro b)
    rw [show IntKind.i64.wrap (IntKind.u8.wrap ((t : Int) - 21)) = ((t - 21 : Nat) : Int) from wu8 t 21 htl (by omega)]
    obtain ⟨nn, hn⟩ : ∃ nn, nn = t - 21 := ⟨_, rfl⟩
    rw [← hn]
    repeat (first | refine wW ?_ | intro b)
    refine c_cond rfl (fun h => ?_) (fun h => ?_)
    · have h := of_decide_eq_true h
      repeat (first | refine wW ?_ | intro b)
      exact at_intro (_, _, _) ⟨inv_bad hI hl (by unfold dec1; simp only [ht]; rw [if_neg (by omega), if_neg (by omega), if_neg (by omega), if_neg (by omega), if_neg (by omega), if_neg (by omega), if_pos (by omega)]; rw [← hn, taken_bad _ _ _ _ (by rw [hlen]; omega) (by rw [hlen]; omega)]), by dsimp only; omega⟩ ⟨rfl, rfl, trivial⟩ (arr_ent 2 [0] _)
    have h := of_decide_eq_false h
    repeat (first | refine wW ?_ | intro b)
    obtain ⟨s, hs⟩ : ∃ s, s = ((bs.drop off).drop 1).take nn := ⟨_, rfl⟩
    have hsl : s.length = nn := by rw [hs, List.length_take, List.length_drop, hlen]; omega
    have hsrc := fun c => src_if (ext := ext) (rdn_all 0 rfl : RdN (blk ib (cl (u8s ext) 5) :: slP (.slice oa acc.length oc) 20 1 (acc.map Prod.fst) :: anys acc :: F) ib 0 (u8s ext)) off 1 nn cap c 1 rfl (by omega) (by omega)
    rw [ext_list he (by omega), ← hs] at hsrc
    have hdec : dec1 (bs.drop off) = .ok (.bytes s) ((bs.drop off).drop (nn + 1)) := by unfold dec1; simp only [ht]; rw [if_neg (by omega), if_neg (by omega), if_neg (by omega), if_neg (by omega), if_neg (by omega), if_neg (by omega), if_pos (by omega)]; rw [← hn, taken_ok _ _ _ _ (by rw [hlen]; omega), ← hs]
    have hsrc := hsrc (cap - (1 : Int).toNat)
    subst hsl
    refine l_plain rfl ?_
    apply s_val rfl rfl
    · exact RunS.v (r_slLH rfl rfl rfl (by omega) (by omega))
    rw [show ((s.length : Int) + 1).toNat - (1 : Int).toNat = s.length by omega]
    refine l_plain rfl (s_appNil rfl rfl hsrc rfl (by omega) (by omega) rfl (fun hk0 => ?_) (fun hk0 nb c' h1 h2 => ?_))
    · have hs0 : s = [] := List.eq_nil_of_length_eq_zero (by omega)
      subst hs0
      repeat (first | refine wW ?_ | intro b)
      refine l_plain rfl (s_append (i := 2) rfl rfl rfl (Src.some _ _ _ _ _ rfl (rdn_all 0 rfl)) rfl rfl (by simp) rfl (by omega) (by omega) rfl ?_)
      intro a c
      repeat (first | refine wW ?_ | intro b)
      refine l_plain rfl ?_
      apply s_val rfl rfl
      · exact RunS.v (r_slLo rfl rfl (by omega))
      repeat (first | refine wW ?_ | intro b)
      refine at_intro ⟨off + (0 + 1), _, _, _, a, c, acc ++ [(.iface 22 (.slice none 0 0), .bytes [])], f - 1⟩ ?_ ⟨rfl, by rw [List.length_append]; rfl, rfl, trivial⟩ (hp_nextE a c acc _ ib ext F _ _ _ _ _)
      exact inv_next hI hl (s := .bytes []) (n := 0 + 1) (hdec) (by omega) (by dsimp only; omega) _ rfl _ _ _ _ _ (by dsimp only; omega) (by dsimp only; omega) (fun hh => adv_at (by omega) (by omega))
    repeat (first | refine wW ?_ | intro b)
    refine l_plain rfl (s_append (i := 3) rfl rfl rfl (Src.some _ _ _ _ _ rfl (rdn_all 0 rfl)) rfl rfl (by simp) rfl (by omega) (by omega) rfl ?_)
    intro a c
    repeat (first | refine wW ?_ | intro b)
    refine l_plain rfl ?_
    apply s_val rfl rfl
    · exact RunS.v (r_slLo rfl rfl (by omega))
    repeat (first | refine wW ?_ | intro b)
    refine at_intro ⟨off + (s.length + 1), _, _, _, a, c, acc ++ [(.iface 22 (.slice (some ⟨nb, 0, none⟩) s.length c'), .bytes s)], f - 1⟩ ?_ ⟨rfl, by rw [List.length_append]; rfl, rfl, trivial⟩ (hp_nextB nb c' s h1 h2 a c acc _ ib ext F _ _ _ _ _)
    exact inv_next hI hl (s := .bytes s) (n := s.length + 1) (hdec) (by omega) (by dsimp only; omega) _ rfl _ _ _ _ _ (by dsimp only; omega) (by dsimp only; omega) (fun hh => adv_at (by omega) (by omega))
  have hy' : y = false := by
    cases y
    · rfl
    · exact absurd (hy.1 rfl).2 eg6
  subst hy'
  refine c_condF rfl ?_
  repeat (first | refine wW ?_ | intro b)
  refine c_cond rfl (fun h => ?_) (fun h => ?_)
  · have e := of_decide_eq_true h
    repeat (first | refine wW ?_ | intro b)
    refine c_cond rfl (fun h => ?_) (fun h => ?_)
    · have h := of_decide_eq_true h
      repeat (first | refine wW ?_ | intro b)
      exact at_intro (_, _, _) ⟨inv_bad hI hl (by unfold dec1; simp only [ht]; rw [if_neg (by omega), if_neg (by omega), if_neg (by omega), if_neg (by omega), if_neg (by omega), if_neg (by omega), if_neg (by omega), if_pos (by omega)]; rw [if_pos (by omega)]), by dsimp only; omega⟩ ⟨rfl, rfl, trivial⟩ (arr_ent 2 [0] _)
    have h := of_decide_eq_false h
    repeat (first | refine wW ?_ | intro b)
    refine l_plain rfl ?_
    apply s_val rfl rfl
    · exact RunS.v (r_index (i := 1) rfl rfl rfl (by omega))
    rw [Nat.one_mul]
    refine l_plain rfl ?_
    apply s_val rfl rfl
    · exact r_load rfl rfl (rd_blk 0 rfl (hget 1 (by omega)))
    repeat (first | refine wW ?_ | intro b)
    rw [wi _ (at1_lt _ _)]
    obtain ⟨nn, hn⟩ : ∃ nn, nn = at1 (bs.drop off) 1 := ⟨_, rfl⟩
    have hnl : nn < 256 := hn ▸ at1_lt _ _
    rw [← hn]
    repeat (first | refine wW ?_ | intro b)
    refine l_plain rfl ?_
    apply s_val rfl rfl
    · exact RunS.v (r_slLo rfl rfl (by omega))
    repeat (first | refine wW ?_ | intro b)
    refine c_cond rfl (fun h' => ?_) (fun h' => ?_)
    · have h' := of_decide_eq_true h'
      repeat (first | refine wW ?_ | intro b)
      exact at_intro (_, _, _) ⟨inv_bad hI hl (by unfold dec1; simp only [ht]; rw [if_neg (by omega), if_neg (by omega), if_neg (by omega), if_neg (by omega), if_neg (by omega), if_neg (by omega), if_neg (by omega), if_pos (by omega)]; rw [if_neg (by omega), ← hn, taken_bad _ _ _ _ (by rw [hlen]; omega) (by rw [hlen]; omega)]), by dsimp only; omega⟩ ⟨rfl, rfl, trivial⟩ (arr_ent 2 [0] _)
    have h' := of_decide_eq_false h'
    repeat (first | refine wW ?_ | intro b)
    obtain ⟨s, hs⟩ : ∃ s, s = ((bs.drop off).drop 2).take nn := ⟨_, rfl⟩
    have hsl : s.length = nn := by rw [hs, List.length_take, List.length_drop, hlen]; omega
    have hsrc := fun c => src_if (ext := ext) (rdn_all 0 rfl : RdN (blk ib (cl (u8s ext) 5) :: slP (.slice oa acc.length oc) 20 1 (acc.map Prod.fst) :: anys acc :: F) ib 0 (u8s ext)) off 2 nn cap c 2 rfl (by omega) (by omega)
    rw [ext_list he (by omega), ← hs] at hsrc
    have hdec : dec1 (bs.drop off) = .ok (.bytes s) ((bs.drop off).drop (nn + 2)) := by unfold dec1; simp only [ht]; rw [if_neg (by omega), if_neg (by omega), if_neg (by omega), if_neg (by omega), if_neg (by omega), if_neg (by omega), if_neg (by omega), if_pos (by omega)]; rw [if_neg (by omega), ← hn, taken_ok _ _ _ _ (by rw [hlen]; omega), ← hs]
    have hsrc := hsrc (cap - (2 : Int).toNat)
    subst hsl
    refine l_plain rfl ?_
    apply s_val rfl rfl
    · exact RunS.v (r_slHi rfl rfl (by omega))
    rw [show (s.length : Int).toNat = s.length by omega]
    refine l_plain rfl (s_appNil rfl rfl hsrc rfl (by omega) (by omega) rfl (fun hk0 => ?_) (fun hk0 nb c' h1 h2 => ?_))
    · have hs0 : s = [] := List.eq_nil_of_length_eq_zero (by omega)
      subst hs0
      repeat (first | refine wW ?_ | intro b)
      refine l_plain rfl (s_append (i := 2) rfl rfl rfl (Src.some _ _ _ _ _ rfl (rdn_all 0 rfl)) rfl rfl (by simp) rfl (by omega) (by omega) rfl ?_)
      intro a c
      repeat (first | refine wW ?_ | intro b)
      refine l_plain rfl ?_
      apply s_val rfl rfl
      · exact RunS.v (r_slLo rfl rfl (by omega))
      repeat (first | refine wW ?_ | intro b)
      refine at_intro ⟨off + (0 + 2), _, _, _, a, c, acc ++ [(.iface 22 (.slice none 0 0), .bytes [])], f - 1⟩ ?_ ⟨rfl, by rw [List.length_append]; rfl, rfl, trivial⟩ (hp_nextE a c acc _ ib ext F _ _ _ _ _)
      exact inv_next hI hl (s := .bytes []) (n := 0 + 2) (hdec) (by omega) (by dsimp only; omega) _ rfl _ _ _ _ _ (by dsimp only; omega) (by dsimp only; omega) (fun hh => adv2 (n := 2) (k := 0) rfl (by omega) (by omega) (by omega) (by dsimp only <;> omega))
    repeat (first | refine wW ?_ | intro b)
    refine l_plain rfl (s_append (i := 3) rfl rfl rfl (Src.some _ _ _ _ _ rfl (rdn_all 0 rfl)) rfl rfl (by simp) rfl (by omega) (by omega) rfl ?_)
    intro a c
    repeat (first | refine wW ?_ | intro b)
    refine l_plain rfl ?_
    apply s_val rfl rfl
    · exact RunS.v (r_slLo rfl rfl (by omega))
    repeat (first | refine wW ?_ | intro b)
    refine at_intro ⟨off + (s.length + 2), _, _, _, a, c, acc ++ [(.iface 22 (.slice (some ⟨nb, 0, none⟩) s.length c'), .bytes s)], f - 1⟩ ?_ ⟨rfl, by rw [List.length_append]; rfl, rfl, trivial⟩ (hp_nextB nb c' s h1 h2 a c acc _ ib ext F _ _ _ _ _)
    exact inv_next hI hl (s := .bytes s) (n := s.length + 2) (hdec) (by omega) (by dsimp only; omega) _ rfl _ _ _ _ _ (by dsimp only; omega) (by dsimp only; omega) (fun hh => adv2 (n := 2) (k := s.length) rfl (by omega) (by omega) (by omega) (by dsimp only <;> omega))
  have e39 := of_decide_eq_false h
  repeat (first | refine wW ?_ | intro b)
  refine c_cond rfl (fun h => ?_) (fun h => ?_)
  · have e := of_decide_eq_true h
    repeat (first | refine wW ?_ | intro b)
    refine c_cond rfl (fun h => ?_) (fun h => ?_)
    · have h := of_decide_eq_true h
      repeat (first | refine wW ?_ | intro b)
      exact at_intro (_, _, _) ⟨inv_bad hI hl (by unfold dec1; simp only [ht]; rw [if_neg (by omega), if_neg (by omega), if_neg (by omega), if_neg (by omega), if_neg (by omega), if_neg (by omega), if_neg (by omega), if_neg (by omega), if_pos (by omega)]; rw [if_pos (by omega)]), by dsimp only; omega⟩ ⟨rfl, rfl, trivial⟩ (arr_ent 2 [0] _)
    have h := of_decide_eq_false h
    have hb1 := at1_lt (bs.drop off) 1
    have hb2 := at1_lt (bs.drop off) 2
    repeat (first | refine wW ?_ | intro b)
    apply qt_val rfl rfl rfl
    · exact RunS.v (r_index (i := 1) rfl rfl rfl (by omega))
    rw [Nat.one_mul]
    apply qt_val rfl rfl rfl
    · exact r_load rfl rfl (rd_blk 0 rfl (hget 1 (by omega)))
    repeat (first | refine wW ?_ | intro b)
    rw [wi _ hb1]
    apply qt_val rfl rfl rfl
    · exact RunS.v (r_shlN (k := .i64) (a := at1 (bs.drop off) 1) 8 rfl rfl rfl (by rw [max_i64]; omega))
    rw [show (2 : Nat) ^ 8 = 256 from rfl]
    repeat (first | refine wW ?_ | intro b)
    apply qt_val rfl rfl rfl
    · exact RunS.v (r_index (i := 2) rfl rfl rfl (by omega))
    apply qt_val rfl rfl rfl
    · exact r_load rfl rfl (rd_blk 0 rfl (hget 2 (by omega)))
    repeat (first | refine wW ?_ | intro b)
    rw [wi _ hb2]
    apply qt_val rfl rfl rfl
    · exact RunS.v (r_orN (k := .i64) (a := at1 (bs.drop off) 1 * 256) (b := at1 (bs.drop off) 2) rfl rfl (by rw [show (2 : Nat) ^ IntKind.i64.bits = 18446744073709551616 by decide]; omega) (by rw [show (2 : Nat) ^ IntKind.i64.bits = 18446744073709551616 by decide]; omega) (by rw [or8 _ _ hb2, max_i64]; omega))
    rw [or8 _ _ hb2]
    repeat (first | refine wW ?_ | intro b)
    obtain ⟨nn, hn⟩ : ∃ nn, nn = at1 (bs.drop off) 1 * 256 + at1 (bs.drop off) 2 + 1 := ⟨_, rfl⟩
    rw [show ((at1 (bs.drop off) 1 * 256 + at1 (bs.drop off) 2 : Nat) : Int) + 1 = (nn : Nat) by omega]
    repeat (first | refine wW ?_ | intro b)
    refine l_plain rfl ?_
    apply s_val rfl rfl
    · exact RunS.v (r_slLo rfl rfl (by omega))
    repeat (first | refine wW ?_ | intro b)
    refine c_cond rfl (fun h' => ?_) (fun h' => ?_)
    · have h' := of_decide_eq_true h'
      repeat (first | refine wW ?_ | intro b)
      exact at_intro (_, _, _) ⟨inv_bad hI hl (by unfold dec1; simp only [ht]; rw [if_neg (by omega), if_neg (by omega), if_neg (by omega), if_neg (by omega), if_neg (by omega), if_neg (by omega), if_neg (by omega), if_neg (by omega), if_pos (by omega)]; rw [if_neg (by omega), ← hn, taken_bad _ _ _ _ (by rw [hlen]; omega) (by rw [hlen]; omega)]), by dsimp only; omega⟩ ⟨rfl, rfl, trivial⟩ (arr_ent 2 [0] _)
    have h' := of_decide_eq_false h'
    repeat (first | refine wW ?_ | intro b)
    obtain ⟨s, hs⟩ : ∃ s, s = ((bs.drop off).drop 3).take nn := ⟨_, rfl⟩
    have hsl : s.length = nn := by rw [hs, List.length_take, List.length_drop, hlen]; omega
    have hsrc := fun c => src_if (ext := ext) (rdn_all 0 rfl : RdN (blk ib (cl (u8s ext) 5) :: slP (.slice oa acc.length oc) 20 1 (acc.map Prod.fst) :: anys acc :: F) ib 0 (u8s ext)) off 3 nn cap c 3 rfl (by omega) (by omega)
    rw [ext_list he (by omega), ← hs] at hsrc
    have hdec : dec1 (bs.drop off) = .ok (.bytes s) ((bs.drop off).drop (nn + 3)) := by unfold dec1; simp only [ht]; rw [if_neg (by omega), if_neg (by omega), if_neg (by omega), if_neg (by omega), if_neg (by omega), if_neg (by omega), if_neg (by omega), if_neg (by omega), if_pos (by omega)]; rw [if_neg (by omega), ← hn, taken_ok _ _ _ _ (by rw [hlen]; omega), ← hs]
    have hsrc := hsrc (cap - (3 : Int).toNat)
    subst hsl
    refine l_plain rfl ?_
    apply s_val rfl rfl
    · exact RunS.v (r_slHi rfl rfl (by omega))
    rw [show (s.length : Int).toNat = s.length by omega]
    refine l_plain rfl (s_appNil rfl rfl hsrc rfl (by omega) (by omega) rfl (fun hk0 => ?_) (fun hk0 nb c' h1 h2 => ?_))
    · have hs0 : s = [] := List.eq_nil_of_length_eq_zero (by omega)
      subst hs0
      repeat (first | refine wW ?_ | intro b)
      refine l_plain rfl (s_append (i := 2) rfl rfl rfl (Src.some _ _ _ _ _ rfl (rdn_all 0 rfl)) rfl rfl (by simp) rfl (by omega) (by omega) rfl ?_)
      intro a c
      repeat (first | refine wW ?_ | intro b)
      refine l_plain rfl ?_
      apply s_val rfl rfl
      · exact RunS.v (r_slLo rfl rfl (by omega))
      repeat (first | refine wW ?_ | intro b)
      refine at_intro ⟨off + (0 + 3), _, _, _, a, c, acc ++ [(.iface 22 (.slice none 0 0), .bytes [])], f - 1⟩ ?_ ⟨rfl, by rw [List.length_append]; rfl, rfl, trivial⟩ (hp_nextE a c acc _ ib ext F _ _ _ _ _)
      exact inv_next hI hl (s := .bytes []) (n := 0 + 3) (hdec) (by omega) (by dsimp only; omega) _ rfl _ _ _ _ _ (by dsimp only; omega) (by dsimp only; omega) (fun hh => adv2 (n := 3) (k := 0) rfl (by omega) (by omega) (by omega) (by dsimp only <;> omega))
    repeat (first | refine wW ?_ | intro b)
    refine l_plain rfl (s_append (i := 3) rfl rfl rfl (Src.some _ _ _ _ _ rfl (rdn_all 0 rfl)) rfl rfl (by simp) rfl (by omega) (by omega) rfl ?_)
    intro a c
    repeat (first | refine wW ?_ | intro b)
    refine l_plain rfl ?_
    apply s_val rfl rfl
    · exact RunS.v (r_slLo rfl rfl (by omega))
    repeat (first | refine wW ?_ | intro b)
    refine at_intro ⟨off + (s.length + 3), _, _, _, a, c, acc ++ [(.iface 22 (.slice (some ⟨nb, 0, none⟩) s.length c'), .bytes s)], f - 1⟩ ?_ ⟨rfl, by rw [List.length_append]; rfl, rfl, trivial⟩ (hp_nextB nb c' s h1 h2 a c acc _ ib ext F _ _ _ _ _)
    exact inv_next hI hl (s := .bytes s) (n := s.length + 3) (hdec) (by omega) (by dsimp only; omega) _ rfl _ _ _ _ _ (by dsimp only; omega) (by dsimp only; omega) (fun hh => adv2 (n := 3) (k := s.length) rfl (by omega) (by omega) (by omega) (by dsimp only <;> omega))
  have e40 := of_decide_eq_false h
  refine c_cut (α := Bool) (fun y => [(0, .slice (some ⟨ib, off, none⟩) len cap), (2, .slice oa acc.length oc), (4, .slice (some ⟨ib, 0, none⟩) bs.length ext.length), (5, .int .u8 (t : Nat)), (34, .int .u8 (t : Nat)), (265, .bool y)]) (fun _ => blk ib (cl (u8s ext) 5) :: slP (.slice oa acc.length oc) 20 1 (acc.map Prod.fst) :: anys acc :: F) (fun y => y = true ↔ 41 ≤ t ∧ t ≤ 58) ?_ ?_
  · repeat (first | refine wW ?_ | intro b)
    refine c_cond rfl (fun h => ?_) (fun h => ?_)
    · have e := of_decide_eq_true h
      repeat (first | refine wW ?_ | intro b)
      exact at_intro _ ⟨fun _ => by omega, fun _ => h⟩ ⟨rfl, rfl, rfl, rfl, rfl, rfl, trivial⟩ (Ent.refl _)
    have g41 := of_decide_eq_false h
    repeat (first | refine wW ?_ | intro b)
    refine c_cond rfl (fun h => ?_) (fun h => ?_)
    · have e := of_decide_eq_true h
      repeat (first | refine wW ?_ | intro b)
      exact at_intro _ ⟨fun _ => by omega, fun _ => h⟩ ⟨rfl, rfl, rfl, rfl, rfl, rfl, trivial⟩ (Ent.refl _)
    have g42 := of_decide_eq_false h
    repeat (first | refine wW ?_ | intro b)
    refine c_cond rfl (fun h => ?_) (fun h => ?_)
    · have e := of_decide_eq_true h
      repeat (first | refine wW ?_ | intro b)
      exact at_intro _ ⟨fun _ => by omega, fun _ => h⟩ ⟨rfl, rfl, rfl, rfl, rfl, rfl, trivial⟩ (Ent.refl _)
    have g43 := of_decide_eq_false h
    repeat (first | refine wW ?_ | intro b)
    refine c_cond rfl (fun h => ?_) (fun h => ?_)
    · have e := of_decide_eq_true h
      repeat (first | refine wW ?_ | intro b)
      exact at_intro _ ⟨fun _ => by omega, fun _ => h⟩ ⟨rfl, rfl, rfl, rfl, rfl, rfl, trivial⟩ (Ent.refl _)
    have g44 := of_decide_eq_false h
    repeat (first | refine wW ?_ | intro b)
    refine c_cond rfl (fun h => ?_) (fun h => ?_)
    · have e := of_decide_eq_true h
      repeat (first | refine wW ?_ | intro b)
      exact at_intro _ ⟨fun _ => by omega, fun _ => h⟩ ⟨rfl, rfl, rfl, rfl, rfl, rfl, trivial⟩ (Ent.refl _)
    have g45 := of_decide_eq_false h
    repeat (first | refine wW ?_ | intro b)
    refine c_cond rfl (fun h => ?_) (fun h => ?_)
    · have e := of_decide_eq_true h
      repeat (first | refine wW ?_ | intro b)
      exact at_intro _ ⟨fun _ => by omega, fun _ => h⟩ ⟨rfl, rfl, rfl, rfl, rfl, rfl, trivial⟩ (Ent.refl _)
    have g46 := of_decide_eq_false h
    repeat (first | refine wW ?_ | intro b)
    refine c_cond rfl (fun h => ?_) (fun h => ?_)
    · have e := of_decide_eq_true h
      repeat (first | refine wW ?_ | intro b)
      exact at_intro _ ⟨fun _ => by omega, fun _ => h⟩ ⟨rfl, rfl, rfl, rfl, rfl, rfl, trivial⟩ (Ent.refl _)
    have g47 := of_decide_eq_false h
    repeat (first | refine wW ?_ | intro b)
    refine c_cond rfl (fun h => ?_) (fun h => ?_)
    · have e := of_decide_eq_true h
      repeat (first | refine wW ?_ | intro b)
      exact at_intro _ ⟨fun _ => by omega, fun _ => h⟩ ⟨rfl, rfl, rfl, rfl, rfl, rfl, trivial⟩ (Ent.refl _)
    have g48 := of_decide_eq_false h
    repeat (first | refine wW ?_ | intro b)
    refine c_cond rfl (fun h => ?_) (fun h => ?_)
    · have e := of_decide_eq_true h
      repeat (first | refine wW ?_ | intro b)
      exact at_intro _ ⟨fun _ => by omega, fun _ => h⟩ ⟨rfl, rfl, rfl, rfl, rfl, rfl, trivial⟩ (Ent.refl _)
    have g49 := of_decide_eq_false h
    repeat (first | refine wW ?_ | intro b)
    refine c_cond rfl (fun h => ?_) (fun h => ?_)
    · have e := of_decide_eq_true h
      repeat (first | refine wW ?_ | intro b)
      exact at_intro _ ⟨fun _ => by omega, fun _ => h⟩ ⟨rfl, rfl, rfl, rfl, rfl, rfl, trivial⟩ (Ent.refl _)
    have g50 := of_decide_eq_false h
    repeat (first | refine wW ?_ | intro b)
    refine c_cond rfl (fun h => ?_) (fun h => ?_)
    · have e := of_decide_eq_true h
      repeat (first | refine wW ?_ | intro b)
      exact at_intro _ ⟨fun _ => by omega, fun _ => h⟩ ⟨rfl, rfl, rfl, rfl, rfl, rfl, trivial⟩ (Ent.refl _)
    have g51 := of_decide_eq_false h
    repeat (first | refine wW ?_ | intro b)
    refine c_cond rfl (fun h => ?_) (fun h => ?_)
    · have e := of_decide_eq_true h
      repeat (first | refine wW ?_ | intro b)
      exact at_intro _ ⟨fun _ => by omega, fun _ => h⟩ ⟨rfl, rfl, rfl, rfl, rfl, rfl, trivial⟩ (Ent.refl _)
    have g52 := of_decide_eq_false h
    repeat (first | refine wW ?_ | intro b)
    refine c_cond rfl (fun h => ?_) (fun h => ?_)
    · have e := of_decide_eq_true h
      repeat (first | refine wW ?_ | intro b)
      exact at_intro _ ⟨fun _ => by omega, fun _ => h⟩ ⟨rfl, rfl, rfl, rfl, rfl, rfl, trivial⟩ (Ent.refl _)
    have g53 := of_decide_eq_false h
    repeat (first | refine wW ?_ | intro b)
    refine c_cond rfl (fun h => ?_) (fun h => ?_)
    · have e := of_decide_eq_true h
      repeat (first | refine wW ?_ | intro b)
      exact at_intro _ ⟨fun _ => by omega, fun _ => h⟩ ⟨rfl, rfl, rfl, rfl, rfl, rfl, trivial⟩ (Ent.refl _)
    have g54 := of_decide_eq_false h
    repeat (first | refine wW ?_ | intro b)
    refine c_cond rfl (fun h => ?_) (fun h => ?_)
    · have e := of_decide_eq_true h
      repeat (first | refine wW ?_ | intro b)
      exact at_intro _ ⟨fun _ => by omega, fun _ => h⟩ ⟨rfl, rfl, rfl, rfl, rfl, rfl, trivial⟩ (Ent.refl _)
    have g55 := of_decide_eq_false h
    repeat (first | refine wW ?_ | intro b)
    refine c_cond rfl (fun h => ?_) (fun h => ?_)
    · have e := of_decide_eq_true h
      repeat (first | refine wW ?_ | intro b)
      exact at_intro _ ⟨fun _ => by omega, fun _ => h⟩ ⟨rfl, rfl, rfl, rfl, rfl, rfl, trivial⟩ (Ent.refl _)
    have g56 := of_decide_eq_false h
    repeat (first | refine wW ?_ | intro b)
    refine c_cond rfl (fun h => ?_) (fun h => ?_)
    · have e := of_decide_eq_true h
      repeat (first | refine wW ?_ | intro b)
      exact at_intro _ ⟨fun _ => by omega, fun _ => h⟩ ⟨rfl, rfl, rfl, rfl, rfl, rfl, trivial⟩ (Ent.refl _)
    have g57 := of_decide_eq_false h
    repeat (first | refine wW ?_ | intro b)
    exact at_intro _ ⟨fun h => by have := of_decide_eq_true h; omega, fun _ => decide_eq_true (by omega)⟩ ⟨rfl, rfl, rfl, rfl, rfl, rfl, trivial⟩ (Ent.refl _)
  rintro y hy
  by_cases eg9 : t ≤ 58
  · have hy' : y = true := hy.2 (by omega)
    subst hy'
    refine c_condT rfl ?_
    repeat (first | refine wW ?_ | intro b)
    refine l_plain rfl ?_
    apply s_val rfl rfl
    · exact RunS.v (r_sub rfl rfl)
    repeat (first | refine wW ?_ | intro b)
    rw [show IntKind.i64.wrap (IntKind.u8.wrap ((t : Int) - 41)) = ((t - 41 : Nat) : Int) from wu8 t 41 htl (by omega)]
    obtain ⟨nn, hn⟩ : ∃ nn, nn = t - 41 := ⟨_, rfl⟩
    rw [← hn]
    repeat (first | refine wW ?_ | intro b)
    refine c_cond rfl (fun h => ?_) (fun h => ?_)
    · have h := of_decide_eq_true h
      repeat (first | refine wW ?_ | intro b)
      exact at_intro (_, _, _) ⟨inv_bad hI hl (by unfold dec1; simp only [ht]; rw [if_neg (by omega), if_neg (by omega), if_neg (by omega), if_neg (by omega), if_neg (by omega), if_neg (by omega), if_neg (by omega), if_neg (by omega), if_neg (by omega), if_pos (by omega)]; rw [← hn, taken_bad _ _ _ _ (by rw [hlen]; omega) (by rw [hlen]; omega)]), by dsimp only; omega⟩ ⟨rfl, rfl, trivial⟩ (arr_ent 2 [0] _)
    have h := of_decide_eq_false h
    repeat (first | refine wW ?_ | intro b)
    obtain ⟨s, hs⟩ : ∃ s, s = ((bs.drop off).drop 1).take nn := ⟨_, rfl⟩
    have hsl : s.length = nn := by rw [hs, List.length_take, List.length_drop, hlen]; omega
    have hsrc := fun c => src_if (ext := ext) (rdn_all 0 rfl : RdN (blk ib (cl (u8s ext) 5) :: slP (.slice oa acc.length oc) 20 1 (acc.map Prod.fst) :: anys acc :: F) ib 0 (u8s ext)) off 1 nn cap c 1 rfl (by omega) (by omega)
    rw [ext_list he (by omega), ← hs] at hsrc
    have hdec : dec1 (bs.drop off) = .ok (.str s) ((bs.drop off).drop (nn + 1)) := by unfold dec1; simp only [ht]; rw [if_neg (by omega), if_neg (by omega), if_neg (by omega), if_neg (by omega), if_neg (by omega), if_neg (by omega), if_neg (by omega), if_neg (by omega), if_neg (by omega), if_pos (by omega)]; rw [← hn, taken_ok _ _ _ _ (by rw [hlen]; omega), ← hs]
    have hsrc := hsrc (cap - (1 : Int).toNat)
    subst hsl
    refine l_plain rfl ?_
    apply s_val rfl rfl
    · exact RunS.v (r_slLH rfl rfl rfl (by omega) (by omega))
    rw [show ((s.length : Int) + 1).toNat - (1 : Int).toNat = s.length by omega]
    refine l_plain rfl ?_
    apply s_val rfl rfl
    · exact r_bStr rfl hsrc rfl
    repeat (first | refine wW ?_ | intro b)
    refine l_plain rfl (s_append (i := 2) rfl rfl rfl (Src.some _ _ _ _ _ rfl (rdn_all 0 rfl)) rfl rfl (by simp) rfl (by omega) (by omega) rfl ?_)
    intro a c
    repeat (first | refine wW ?_ | intro b)
    refine l_plain rfl ?_
    apply s_val rfl rfl
    · exact RunS.v (r_slLo rfl rfl (by omega))
    repeat (first | refine wW ?_ | intro b)
    refine at_intro ⟨off + (s.length + 1), _, _, _, a, c, acc ++ [(.iface 9 (.string ⟨s.toArray⟩), .str s)], f - 1⟩ ?_ ⟨rfl, by rw [List.length_append]; rfl, rfl, trivial⟩ (hp_next (p := (.iface 9 (.string ⟨s.toArray⟩), .str s)) (by unfold anyP; rfl) a c acc _ ib ext F _ _ _ _ _)
    exact inv_next hI hl (s := .str s) (n := s.length + 1) (hdec) (by omega) (by dsimp only; omega) _ rfl _ _ _ _ _ (by dsimp only; omega) (by dsimp only; omega) (fun hh => adv_at (by omega) (by omega))
  have hy' : y = false := by
    cases y
    · rfl
    · exact absurd (hy.1 rfl).2 eg9
  subst hy'
  refine c_condF rfl ?_
  repeat (first | refine wW ?_ | intro b)
  refine c_cond rfl (fun h => ?_) (fun h => ?_)
  · have e := of_decide_eq_true h
    repeat (first | refine wW ?_ | intro b)
    refine c_cond rfl (fun h => ?_) (fun h => ?_)
    · have h := of_decide_eq_true h
      repeat (first | refine wW ?_ | intro b)
      exact at_intro (_, _, _) ⟨inv_bad hI hl (by unfold dec1; simp only [ht]; rw [if_neg (by omega), if_neg (by omega), if_neg (by omega), if_neg (by omega), if_neg (by omega), if_neg (by omega), if_neg (by omega), if_neg (by omega), if_neg (by omega), if_neg (by omega), if_pos (by omega)]; rw [if_pos (by omega)]), by dsimp only; omega⟩ ⟨rfl, rfl, trivial⟩ (arr_ent 2 [0] _)
    have h := of_decide_eq_false h
    repeat (first | refine wW ?_ | intro b)
    refine l_plain rfl ?_
    apply s_val rfl rfl
    · exact RunS.v (r_index (i := 1) rfl rfl rfl (by omega))
    rw [Nat.one_mul]
    refine l_plain rfl ?_
    apply s_val rfl rfl
    · exact r_load rfl rfl (rd_blk 0 rfl (hget 1 (by omega)))
    repeat (first | refine wW ?_ | intro b)
    rw [wi _ (at1_lt _ _)]
    obtain ⟨nn, hn⟩ : ∃ nn, nn = at1 (bs.drop off) 1 := ⟨_, rfl⟩
    have hnl : nn < 256 := hn ▸ at1_lt _ _
    rw [← hn]
    repeat (first | refine wW ?_ | intro b)
    refine l_plain rfl ?_
    apply s_val rfl rfl
    · exact RunS.v (r_slLo rfl rfl (by omega))
    repeat (first | refine wW ?_ | intro b)
    refine c_cond rfl (fun h' => ?_) (fun h' => ?_)
    · have h' := of_decide_eq_true h'
      repeat (first | refine wW ?_ | intro b)
      exact at_intro (_, _, _) ⟨inv_bad hI hl (by unfold dec1; simp only [ht]; rw [if_neg (by omega), if_neg (by omega), if_neg (by omega), if_neg (by omega), if_neg (by omega), if_neg (by omega), if_neg (by omega), if_neg (by omega), if_neg (by omega), if_neg (by omega), if_pos (by omega)]; rw [if_neg (by omega), ← hn, taken_bad _ _ _ _ (by rw [hlen]; omega) (by rw [hlen]; omega)]), by dsimp only; omega⟩ ⟨rfl, rfl, trivial⟩ (arr_ent 2 [0] _)
    have h' := of_decide_eq_false h'
    repeat (first | refine wW ?_ | intro b)
    obtain ⟨s, hs⟩ : ∃ s, s = ((bs.drop off).drop 2).take nn := ⟨_, rfl⟩
    have hsl : s.length = nn := by rw [hs, List.length_take, List.length_drop, hlen]; omega
    have hsrc := fun c => src_if (ext := ext) (rdn_all 0 rfl : RdN (blk ib (cl (u8s ext) 5) :: slP (.slice oa acc.length oc) 20 1 (acc.map Prod.fst) :: anys acc :: F) ib 0 (u8s ext)) off 2 nn cap c 2 rfl (by omega) (by omega)
    rw [ext_list he (by omega), ← hs] at hsrc
    have hdec : dec1 (bs.drop off) = .ok (.str s) ((bs.drop off).drop (nn + 2)) := by unfold dec1; simp only [ht]; rw [if_neg (by omega), if_neg (by omega), if_neg (by omega), if_neg (by omega), if_neg (by omega), if_neg (by omega), if_neg (by omega), if_neg (by omega), if_neg (by omega), if_neg (by omega), if_pos (by omega)]; rw [if_neg (by omega), ← hn, taken_ok _ _ _ _ (by rw [hlen]; omega), ← hs]
    have hsrc := hsrc (cap - (2 : Int).toNat)
    subst hsl
    refine l_plain rfl ?_
    apply s_val rfl rfl
    · exact RunS.v (r_slHi rfl rfl (by omega))
    rw [show (s.length : Int).toNat = s.length by omega]
    refine l_plain rfl ?_
    apply s_val rfl rfl
    · exact r_bStr rfl hsrc rfl
    repeat (first | refine wW ?_ | intro b)
    refine l_plain rfl (s_append (i := 2) rfl rfl rfl (Src.some _ _ _ _ _ rfl (rdn_all 0 rfl)) rfl rfl (by simp) rfl (by omega) (by omega) rfl ?_)
    intro a c
    repeat (first | refine wW ?_ | intro b)
    refine l_plain rfl ?_
    apply s_val rfl rfl
    · exact RunS.v (r_slLo rfl rfl (by omega))
    repeat (first | refine wW ?_ | intro b)
    refine at_intro ⟨off + (s.length + 2), _, _, _, a, c, acc ++ [(.iface 9 (.string ⟨s.toArray⟩), .str s)], f - 1⟩ ?_ ⟨rfl, by rw [List.length_append]; rfl, rfl, trivial⟩ (hp_next (p := (.iface 9 (.string ⟨s.toArray⟩), .str s)) (by unfold anyP; rfl) a c acc _ ib ext F _ _ _ _ _)
    exact inv_next hI hl (s := .str s) (n := s.length + 2) (hdec) (by omega) (by dsimp only; omega) _ rfl _ _ _ _ _ (by dsimp only; omega) (by dsimp only; omega) (fun hh => adv2 (n := 2) (k := s.length) rfl (by omega) (by omega) (by omega) (by dsimp only <;> omega))
  have e59 := of_decide_eq_false h
  repeat (first | refine wW ?_ | intro b)
  refine c_cond rfl (fun h => ?_) (fun h => ?_)
  · have e := of_decide_eq_true h
    repeat (first | refine wW ?_ | intro b)
    refine c_cond rfl (fun h => ?_) (fun h => ?_)
    · have h := of_decide_eq_true h
      repeat (first | refine wW ?_ | intro b)
      exact at_intro (_, _, _) ⟨inv_bad hI hl (by unfold dec1; simp only [ht]; rw [if_neg (by omega), if_neg (by omega), if_neg (by omega), if_neg (by omega), if_neg (by omega), if_neg (by omega), if_neg (by omega), if_neg (by omega), if_neg (by omega), if_neg (by omega), if_neg (by omega), if_pos (by omega)]; rw [if_pos (by omega)]), by dsimp only; omega⟩ ⟨rfl, rfl, trivial⟩ (arr_ent 2 [0] _)
    have h := of_decide_eq_false h
    have hb1 := at1_lt (bs.drop off) 1
    have hb2 := at1_lt (bs.drop off) 2
    repeat (first | refine wW ?_ | intro b)
    apply qt_val rfl rfl rfl
    · exact RunS.v (r_index (i := 1) rfl rfl rfl (by omega))
    rw [Nat.one_mul]
    apply qt_val rfl rfl rfl
    · exact r_load rfl rfl (rd_blk 0 rfl (hget 1 (by omega)))
    repeat (first | refine wW ?_ | intro b)
    rw [wi _ hb1]
    apply qt_val rfl rfl rfl
    · exact RunS.v (r_shlN (k := .i64) (a := at1 (bs.drop off) 1) 8 rfl rfl rfl (by rw [max_i64]; omega))
    rw [show (2 : Nat) ^ 8 = 256 from rfl]
    repeat (first | refine wW ?_ | intro b)
    apply qt_val rfl rfl rfl
    · exact RunS.v (r_index (i := 2) rfl rfl rfl (by omega))
    apply qt_val rfl rfl rfl
    · exact r_load rfl rfl (rd_blk 0 rfl (hget 2 (by omega)))
    repeat (first | refine wW ?_ | intro b)
    rw [wi _ hb2]
    apply qt_val rfl rfl rfl
    · exact RunS.v (r_orN (k := .i64) (a := at1 (bs.drop off) 1 * 256) (b := at1 (bs.drop off) 2) rfl rfl (by rw [show (2 : Nat) ^ IntKind.i64.bits = 18446744073709551616 by decide]; omega) (by rw [show (2 : Nat) ^ IntKind.i64.bits = 18446744073709551616 by decide]; omega) (by rw [or8 _ _ hb2, max_i64]; omega))
    rw [or8 _ _ hb2]
    repeat (first | refine wW ?_ | intro b)
    obtain ⟨nn, hn⟩ : ∃ nn, nn = at1 (bs.drop off) 1 * 256 + at1 (bs.drop off) 2 := ⟨_, rfl⟩
    rw [← hn]
    repeat (first | refine wW ?_ | intro b)
    refine l_plain rfl ?_
    apply s_val rfl rfl
    · exact RunS.v (r_slLo rfl rfl (by omega))
    repeat (first | refine wW ?_ | intro b)
    refine c_cond rfl (fun h' => ?_) (fun h' => ?_)
    · have h' := of_decide_eq_true h'
      repeat (first | refine wW ?_ | intro b)
      exact at_intro (_, _, _) ⟨inv_bad hI hl (by unfold dec1; simp only [ht]; rw [if_neg (by omega), if_neg (by omega), if_neg (by omega), if_neg (by omega), if_neg (by omega), if_neg (by omega), if_neg (by omega), if_neg (by omega), if_neg (by omega), if_neg (by omega), if_neg (by omega), if_pos (by omega)]; rw [if_neg (by omega), ← hn, taken_bad _ _ _ _ (by rw [hlen]; omega) (by rw [hlen]; omega)]), by dsimp only; omega⟩ ⟨rfl, rfl, trivial⟩ (arr_ent 2 [0] _)
    have h' := of_decide_eq_false h'
    repeat (first | refine wW ?_ | intro b)
    obtain ⟨s, hs⟩ : ∃ s, s = ((bs.drop off).drop 3).take nn := ⟨_, rfl⟩
    have hsl : s.length = nn := by rw [hs, List.length_take, List.length_drop, hlen]; omega
    have hsrc := fun c => src_if (ext := ext) (rdn_all 0 rfl : RdN (blk ib (cl (u8s ext) 5) :: slP (.slice oa acc.length oc) 20 1 (acc.map Prod.fst) :: anys acc :: F) ib 0 (u8s ext)) off 3 nn cap c 3 rfl (by omega) (by omega)
    rw [ext_list he (by omega), ← hs] at hsrc
    have hdec : dec1 (bs.drop off) = .ok (.str s) ((bs.drop off).drop (nn + 3)) := by unfold dec1; simp only [ht]; rw [if_neg (by omega), if_neg (by omega), if_neg (by omega), if_neg (by omega), if_neg (by omega), if_neg (by omega), if_neg (by omega), if_neg (by omega), if_neg (by omega), if_neg (by omega), if_neg (by omega), if_pos (by omega)]; rw [if_neg (by omega), ← hn, taken_ok _ _ _ _ (by rw [hlen]; omega), ← hs]
    have hsrc := hsrc (cap - (3 : Int).toNat)
    subst hsl
    refine l_plain rfl ?_
    apply s_val rfl rfl
    · exact RunS.v (r_slHi rfl rfl (by omega))
    rw [show (s.length : Int).toNat = s.length by omega]
    refine l_plain rfl ?_
    apply s_val rfl rfl
    · exact r_bStr rfl hsrc rfl
    repeat (first | refine wW ?_ | intro b)
    refine l_plain rfl (s_append (i := 2) rfl rfl rfl (Src.some _ _ _ _ _ rfl (rdn_all 0 rfl)) rfl rfl (by simp) rfl (by omega) (by omega) rfl ?_)
    intro a c
    repeat (first | refine wW ?_ | intro b)
    refine l_plain rfl ?_
    apply s_val rfl rfl
    · exact RunS.v (r_slLo rfl rfl (by omega))
    repeat (first | refine wW ?_ | intro b)
    refine at_intro ⟨off + (s.length + 3), _, _, _, a, c, acc ++ [(.iface 9 (.string ⟨s.toArray⟩), .str s)], f - 1⟩ ?_ ⟨rfl, by rw [List.length_append]; rfl, rfl, trivial⟩ (hp_next (p := (.iface 9 (.string ⟨s.toArray⟩), .str s)) (by unfold anyP; rfl) a c acc _ ib ext F _ _ _ _ _)
    exact inv_next hI hl (s := .str s) (n := s.length + 3) (hdec) (by omega) (by dsimp only; omega) _ rfl _ _ _ _ _ (by dsimp only; omega) (by dsimp only; omega) (fun hh => adv2 (n := 3) (k := s.length) rfl (by omega) (by omega) (by omega) (by dsimp only <;> omega))
  have e60 := of_decide_eq_false h
  refine c_cut (α := Bool) (fun y => [(0, .slice (some ⟨ib, off, none⟩) len cap), (2, .slice oa acc.length oc), (4, .slice (some ⟨ib, 0, none⟩) bs.length ext.length), (5, .int .u8 (t : Nat)), (34, .int .u8 (t : Nat)), (363, .bool y)]) (fun _ => blk ib (cl (u8s ext) 5) :: slP (.slice oa acc.length oc) 20 1 (acc.map Prod.fst) :: anys acc :: F) (fun y => y = true ↔ 61 ≤ t ∧ t ≤ 68) ?_ ?_
  · repeat (first | refine wW ?_ | intro b)
    refine c_cond rfl (fun h => ?_) (fun h => ?_)
    · have e := of_decide_eq_true h
      repeat (first | refine wW ?_ | intro b)
      exact at_intro _ ⟨fun _ => by omega, fun _ => h⟩ ⟨rfl, rfl, rfl, rfl, rfl, rfl, trivial⟩ (Ent.refl _)
    have g61 := of_decide_eq_false h
    repeat (first | refine wW ?_ | intro b)
    refine c_cond rfl (fun h => ?_) (fun h => ?_)
    · have e := of_decide_eq_true h
      repeat (first | refine wW ?_ | intro b)
      exact at_intro _ ⟨fun _ => by omega, fun _ => h⟩ ⟨rfl, rfl, rfl, rfl, rfl, rfl, trivial⟩ (Ent.refl _)
    have g62 := of_decide_eq_false h
    repeat (first | refine wW ?_ | intro b)
    refine c_cond rfl (fun h => ?_) (fun h => ?_)
    · have e := of_decide_eq_true h
      repeat (first | refine wW ?_ | intro b)
      exact at_intro _ ⟨fun _ => by omega, fun _ => h⟩ ⟨rfl, rfl, rfl, rfl, rfl, rfl, trivial⟩ (Ent.refl _)
    have g63 := of_decide_eq_false h
    repeat (first | refine wW ?_ | intro b)
    refine c_cond rfl (fun h => ?_) (fun h => ?_)
    · have e := of_decide_eq_true h
      repeat (first | refine wW ?_ | intro b)
      exact at_intro _ ⟨fun _ => by omega, fun _ => h⟩ ⟨rfl, rfl, rfl, rfl, rfl, rfl, trivial⟩ (Ent.refl _)
    have g64 := of_decide_eq_false h
    repeat (first | refine wW ?_ | intro b)
    refine c_cond rfl (fun h => ?_) (fun h => ?_)
    · have e := of_decide_eq_true h
      repeat (first | refine wW ?_ | intro b)
      exact at_intro _ ⟨fun _ => by omega, fun _ => h⟩ ⟨rfl, rfl, rfl, rfl, rfl, rfl, trivial⟩ (Ent.refl _)
    have g65 := of_decide_eq_false h
    repeat (first | refine wW ?_ | intro b)
    refine c_cond rfl (fun h => ?_) (fun h => ?_)
    · have e := of_decide_eq_true h
      repeat (first | refine wW ?_ | intro b)
      exact at_intro _ ⟨fun _ => by omega, fun _ => h⟩ ⟨rfl, rfl, rfl, rfl, rfl, rfl, trivial⟩ (Ent.refl _)
    have g66 := of_decide_eq_false h
    repeat (first | refine wW ?_ | intro b)
    refine c_cond rfl (fun h => ?_) (fun h => ?_)
    · have e := of_decide_eq_true h
      repeat (first | refine wW ?_ | intro b)
      exact at_intro _ ⟨fun _ => by omega, fun _ => h⟩ ⟨rfl, rfl, rfl, rfl, rfl, rfl, trivial⟩ (Ent.refl _)
    have g67 := of_decide_eq_false h
    repeat (first | refine wW ?_ | intro b)
    exact at_intro _ ⟨fun h => by have := of_decide_eq_true h; omega, fun _ => decide_eq_true (by omega)⟩ ⟨rfl, rfl, rfl, rfl, rfl, rfl, trivial⟩ (Ent.refl _)
  rintro y hy
  by_cases eg12 : t ≤ 68
  · have hy' : y = true := hy.2 (by omega)
    subst hy'
    refine c_condT rfl ?_
    repeat (first | refine wW ?_ | intro b)
    refine l_plain rfl ?_
    apply s_val rfl rfl
    · exact RunS.v (r_slLo rfl rfl (by omega))
    repeat (first | refine wW ?_ | intro b)
    rw [wi t htl]
    repeat (first | refine wW ?_ | intro b)
    obtain ⟨nn, hn⟩ : ∃ nn, nn = t - 60 := ⟨_, rfl⟩
    rw [show 1 + (t : Int) - 61 = (nn : Nat) by omega]
    repeat (first | refine wW ?_ | intro b)
    refine c_cond rfl (fun h => ?_) (fun h => ?_)
    · have h := of_decide_eq_true h
      repeat (first | refine wW ?_ | intro b)
      exact at_intro (_, _, _) ⟨inv_bad hI hl (by unfold dec1; simp only [ht]; rw [if_neg (by omega), if_neg (by omega), if_neg (by omega), if_neg (by omega), if_neg (by omega), if_neg (by omega), if_neg (by omega), if_neg (by omega), if_neg (by omega), if_neg (by omega), if_neg (by omega), if_neg (by omega), if_pos (by omega)]; rw [← hn, taken_bad _ _ _ _ (by rw [hlen]; omega) (by rw [hlen]; omega)]), by dsimp only; omega⟩ ⟨rfl, rfl, trivial⟩ (arr_ent 2 [0] _)
    have h := of_decide_eq_false h
    rw [adv_at (n := 1) rfl (by omega)]
    repeat (first | refine wW ?_ | intro b)
    obtain ⟨s, hs⟩ : ∃ s, s = ((bs.drop off).drop 1).take nn := ⟨_, rfl⟩
    have hsl : s.length = nn := by rw [hs, List.length_take, List.length_drop, hlen]; omega
    have hgs : ∀ i, i < s.length → (u8s ext)[off + 1 + i]? = some (Value.int IntKind.u8 (at1 s i : Nat)) := fun i hi => by rw [hs, at1_take _ _ _ _ (by omega), show off + 1 + i = off + (1 + i) by omega]; exact hget (1 + i) (by omega)
    have hdec : dec1 (bs.drop off) = .ok (.u64 (beu 0 s)) ((bs.drop off).drop (nn + 1)) := by unfold dec1; simp only [ht]; rw [if_neg (by omega), if_neg (by omega), if_neg (by omega), if_neg (by omega), if_neg (by omega), if_neg (by omega), if_neg (by omega), if_neg (by omega), if_neg (by omega), if_neg (by omega), if_neg (by omega), if_neg (by omega), if_pos (by omega)]; rw [← hn, taken_ok _ _ _ _ (by rw [hlen]; omega), ← hs]
    subst hsl
    refine l_plain rfl ?_
    apply s_val rfl rfl
    · exact RunS.v (r_slHi rfl rfl (by omega))
    rw [show (s.length : Int).toNat = s.length by omega]
    repeat (first | refine wW ?_ | intro b)
    refine c_loop (α := Nat) (fun i => [(0, .slice (some ⟨ib, off + 1, none⟩) (len - (1 : Int).toNat) (cap - (1 : Int).toNat)), (2, .slice oa acc.length oc), (4, .slice (some ⟨ib, 0, none⟩) bs.length ext.length), (15, .int .i64 (s.length : Nat)), (16, .int .u64 (beu 0 (s.take i) : Nat)), (384, .slice (some ⟨ib, off + 1, none⟩) s.length (cap - (1 : Int).toNat)), (385, .int .i64 (s.length : Nat)), (386, .int .i64 (i : Nat))]) (fun _ => blk ib (cl (u8s ext) 5) :: slP (.slice oa acc.length oc) 20 1 (acc.map Prod.fst) :: anys acc :: F) (fun i => i ≤ s.length) (fun i => s.length - i) 0 (Nat.zero_le _) ⟨rfl, rfl, rfl, rfl, rfl, rfl, rfl, rfl, trivial⟩ (Ent.refl _) ?_
    intro i hi
    repeat (first | refine wW ?_ | intro b)
    refine c_cond rfl (fun h2 => ?_) (fun h2 => ?_)
    · have h2 := of_decide_eq_true h2
      have hv := at1_lt s i
      repeat (first | refine wW ?_ | intro b)
      refine l_plain rfl ?_
      apply s_val rfl rfl
      · exact RunS.v (r_index (i := i) rfl rfl rfl (by omega))
      rw [Nat.mul_one]
      refine l_plain rfl ?_
      apply s_val rfl rfl
      · exact r_load rfl rfl (rd_blk 0 rfl (hgs i (by omega)))
      repeat (first | refine wW ?_ | intro b)
      refine l_plain rfl ?_
      apply s_val rfl rfl
      · exact RunS.v (r_shl rfl rfl (by decide))
      rw [shl8u]
      repeat (first | refine wW ?_ | intro b)
      rw [show IntKind.u64.wrap (at1 s i : Int) = (at1 s i : Int) from wrap_nn (by rw [max_u64]; omega)]
      refine l_plain rfl ?_
      apply s_val rfl rfl
      · exact RunS.v (r_orN (k := .u64) (a := beu 0 (s.take i) * 256 % 18446744073709551616) (b := at1 s i) rfl rfl (by rw [p64]; omega) (by rw [p64]; omega) (by rw [or8u _ _ hv, max_u64]; omega))
      rw [or8u _ _ hv, ← beu_succ _ (by omega)]
      repeat (first | refine wW ?_ | intro b)
      exact at_intro (i + 1) ⟨by omega, by omega⟩ ⟨rfl, rfl, rfl, rfl, rfl, rfl, rfl, rfl, trivial⟩ (Ent.refl _)
    have h2 := of_decide_eq_false h2
    have hi2 : i = s.length := by omega
    subst hi2
    rw [List.take_length]
    repeat (first | refine wW ?_ | intro b)
    refine l_plain rfl (s_append (i := 2) rfl rfl rfl (Src.some _ _ _ _ _ rfl (rdn_all 0 rfl)) rfl rfl (by simp) rfl (by omega) (by omega) rfl ?_)
    intro a c
    repeat (first | refine wW ?_ | intro b)
    refine l_plain rfl ?_
    apply s_val rfl rfl
    · exact RunS.v (r_slLo rfl rfl (by omega))
    repeat (first | refine wW ?_ | intro b)
    refine at_intro ⟨off + (s.length + 1), _, _, _, a, c, acc ++ [(.iface 34 (.int .u64 (beu 0 s : Nat)), .u64 (beu 0 s))], f - 1⟩ ?_ ⟨rfl, by rw [List.length_append]; rfl, rfl, trivial⟩ (hp_next (p := (.iface 34 (.int .u64 (beu 0 s : Nat)), .u64 (beu 0 s))) (by unfold anyP; rfl) a c acc _ ib ext F _ _ _ _ _)
    exact inv_next hI hl (s := .u64 (beu 0 s)) (n := s.length + 1) (hdec) (by omega) (by dsimp only; omega) _ rfl _ _ _ _ _ (by dsimp only; omega) (by dsimp only; omega) (fun hh => adv1 (k := s.length) (by omega) (by omega) (by dsimp only <;> omega))
  have hy' : y = false := by
    cases y
    · rfl
    · exact absurd (hy.1 rfl).2 eg12
  subst hy'
  refine c_condF rfl ?_
  refine c_cut (α := Bool) (fun y => [(0, .slice (some ⟨ib, off, none⟩) len cap), (2, .slice oa acc.length oc), (4, .slice (some ⟨ib, 0, none⟩) bs.length ext.length), (5, .int .u8 (t : Nat)), (34, .int .u8 (t : Nat)), (404, .bool y)]) (fun _ => blk ib (cl (u8s ext) 5) :: slP (.slice oa acc.length oc) 20 1 (acc.map Prod.fst) :: anys acc :: F) (fun y => y = true ↔ 69 ≤ t ∧ t ≤ 76) ?_ ?_
  · repeat (first | refine wW ?_ | intro b)
    refine c_cond rfl (fun h => ?_) (fun h => ?_)
    · have e := of_decide_eq_true h
      repeat (first | refine wW ?_ | intro b)
      exact at_intro _ ⟨fun _ => by omega, fun _ => h⟩ ⟨rfl, rfl, rfl, rfl, rfl, rfl, trivial⟩ (Ent.refl _)
    have g69 := of_decide_eq_false h
    repeat (first | refine wW ?_ | intro b)
    refine c_cond rfl (fun h => ?_) (fun h => ?_)
    · have e := of_decide_eq_true h
      repeat (first | refine wW ?_ | intro b)
      exact at_intro _ ⟨fun _ => by omega, fun _ => h⟩ ⟨rfl, rfl, rfl, rfl, rfl, rfl, trivial⟩ (Ent.refl _)
    have g70 := of_decide_eq_false h
    repeat (first | refine wW ?_ | intro b)
    refine c_cond rfl (fun h => ?_) (fun h => ?_)
    · have e := of_decide_eq_true h
      repeat (first | refine wW ?_ | intro b)
      exact at_intro _ ⟨fun _ => by omega, fun _ => h⟩ ⟨rfl, rfl, rfl, rfl, rfl, rfl, trivial⟩ (Ent.refl _)
    have g71 := of_decide_eq_false h
    repeat (first | refine wW ?_ | intro b)
    refine c_cond rfl (fun h => ?_) (fun h => ?_)
    · have e := of_decide_eq_true h
      repeat (first | refine wW ?_ | intro b)
      exact at_intro _ ⟨fun _ => by omega, fun _ => h⟩ ⟨rfl, rfl, rfl, rfl, rfl, rfl, trivial⟩ (Ent.refl _)
    have g72 := of_decide_eq_false h
    repeat (first | refine wW ?_ | intro b)
    refine c_cond rfl (fun h => ?_) (fun h => ?_)
    · have e := of_decide_eq_true h
      repeat (first | refine wW ?_ | intro b)
      exact at_intro _ ⟨fun _ => by omega, fun _ => h⟩ ⟨rfl, rfl, rfl, rfl, rfl, rfl, trivial⟩ (Ent.refl _)
    have g73 := of_decide_eq_false h
    repeat (first | refine wW ?_ | intro b)
    refine c_cond rfl (fun h => ?_) (fun h => ?_)
    · have e := of_decide_eq_true h
      repeat (first | refine wW ?_ | intro b)
      exact at_intro _ ⟨fun _ => by omega, fun _ => h⟩ ⟨rfl, rfl, rfl, rfl, rfl, rfl, trivial⟩ (Ent.refl _)
    have g74 := of_decide_eq_false h
    repeat (first | refine wW ?_ | intro b)
    refine c_cond rfl (fun h => ?_) (fun h => ?_)
    · have e := of_decide_eq_true h
      repeat (first | refine wW ?_ | intro b)
      exact at_intro _ ⟨fun _ => by omega, fun _ => h⟩ ⟨rfl, rfl, rfl, rfl, rfl, rfl, trivial⟩ (Ent.refl _)
    have g75 := of_decide_eq_false h
    repeat (first | refine wW ?_ | intro b)
    exact at_intro _ ⟨fun h => by have := of_decide_eq_true h; omega, fun _ => decide_eq_true (by omega)⟩ ⟨rfl, rfl, rfl, rfl, rfl, rfl, trivial⟩ (Ent.refl _)
  rintro y hy
  by_cases eg13 : t ≤ 76
  · have hy' : y = true := hy.2 (by omega)
    subst hy'
    refine c_condT rfl ?_
    repeat (first | refine wW ?_ | intro b)
    refine l_plain rfl ?_
    apply s_val rfl rfl
    · exact RunS.v (r_slLo rfl rfl (by omega))
    repeat (first | refine wW ?_ | intro b)
    rw [wi t htl]
    repeat (first | refine wW ?_ | intro b)
    obtain ⟨nn, hn⟩ : ∃ nn, nn = 77 - t := ⟨_, rfl⟩
    rw [show 8 - ((t : Int) - 69) = (nn : Nat) by omega]
    repeat (first | refine wW ?_ | intro b)
    refine c_cond rfl (fun h => ?_) (fun h => ?_)
    · have h := of_decide_eq_true h
      repeat (first | refine wW ?_ | intro b)
      exact at_intro (_, _, _) ⟨inv_bad hI hl (by unfold dec1; simp only [ht]; rw [if_neg (by omega), if_neg (by omega), if_neg (by omega), if_neg (by omega), if_neg (by omega), if_neg (by omega), if_neg (by omega), if_neg (by omega), if_neg (by omega), if_neg (by omega), if_neg (by omega), if_neg (by omega), if_neg (by omega), if_pos (by omega)]; rw [← hn, taken_bad _ _ _ _ (by rw [hlen]; omega) (by rw [hlen]; omega)]), by dsimp only; omega⟩ ⟨rfl, rfl, trivial⟩ (arr_ent 2 [0] _)
    have h := of_decide_eq_false h
    rw [adv_at (n := 1) rfl (by omega)]
    repeat (first | refine wW ?_ | intro b)
    obtain ⟨s, hs⟩ : ∃ s, s = ((bs.drop off).drop 1).take nn := ⟨_, rfl⟩
    have hsl : s.length = nn := by rw [hs, List.length_take, List.length_drop, hlen]; omega
    have hgs : ∀ i, i < s.length → (u8s ext)[off + 1 + i]? = some (Value.int IntKind.u8 (at1 s i : Nat)) := fun i hi => by rw [hs, at1_take _ _ _ _ (by omega), show off + 1 + i = off + (1 + i) by omega]; exact hget (1 + i) (by omega)
    have hdec : dec1 (bs.drop off) = .ok (.i64 (IntKind.i64.wrap (beu 18446744073709551615 s : Nat))) ((bs.drop off).drop (nn + 1)) := by unfold dec1; simp only [ht]; rw [if_neg (by omega), if_neg (by omega), if_neg (by omega), if_neg (by omega), if_neg (by omega), if_neg (by omega), if_neg (by omega), if_neg (by omega), if_neg (by omega), if_neg (by omega), if_neg (by omega), if_neg (by omega), if_neg (by omega), if_pos (by omega)]; rw [← hn, taken_ok _ _ _ _ (by rw [hlen]; omega), ← hs]
    subst hsl
    refine l_plain rfl ?_
    apply s_val rfl rfl
    · exact RunS.v (r_slHi rfl rfl (by omega))
    rw [show (s.length : Int).toNat = s.length by omega]
    repeat (first | refine wW ?_ | intro b)
    refine c_loop (α := Nat) (fun i => [(0, .slice (some ⟨ib, off + 1, none⟩) (len - (1 : Int).toNat) (cap - (1 : Int).toNat)), (2, .slice oa acc.length oc), (4, .slice (some ⟨ib, 0, none⟩) bs.length ext.length), (19, .int .i64 (s.length : Nat)), (20, .int .u64 (beu 18446744073709551615 (s.take i) : Nat)), (425, .slice (some ⟨ib, off + 1, none⟩) s.length (cap - (1 : Int).toNat)), (426, .int .i64 (s.length : Nat)), (427, .int .i64 (i : Nat))]) (fun _ => blk ib (cl (u8s ext) 5) :: slP (.slice oa acc.length oc) 20 1 (acc.map Prod.fst) :: anys acc :: F) (fun i => i ≤ s.length) (fun i => s.length - i) 0 (Nat.zero_le _) ⟨rfl, rfl, rfl, rfl, rfl, rfl, rfl, rfl, trivial⟩ (Ent.refl _) ?_
    intro i hi
    repeat (first | refine wW ?_ | intro b)
    refine c_cond rfl (fun h2 => ?_) (fun h2 => ?_)
    · have h2 := of_decide_eq_true h2
      have hv := at1_lt s i
      repeat (first | refine wW ?_ | intro b)
      refine l_plain rfl ?_
      apply s_val rfl rfl
      · exact RunS.v (r_index (i := i) rfl rfl rfl (by omega))
      rw [Nat.mul_one]
      refine l_plain rfl ?_
      apply s_val rfl rfl
      · exact r_load rfl rfl (rd_blk 0 rfl (hgs i (by omega)))
      repeat (first | refine wW ?_ | intro b)
      refine l_plain rfl ?_
      apply s_val rfl rfl
      · exact RunS.v (r_shl rfl rfl (by decide))
      rw [shl8u]
      repeat (first | refine wW ?_ | intro b)
      rw [show IntKind.u64.wrap (at1 s i : Int) = (at1 s i : Int) from wrap_nn (by rw [max_u64]; omega)]
      refine l_plain rfl ?_
      apply s_val rfl rfl
      · exact RunS.v (r_orN (k := .u64) (a := beu 18446744073709551615 (s.take i) * 256 % 18446744073709551616) (b := at1 s i) rfl rfl (by rw [p64]; omega) (by rw [p64]; omega) (by rw [or8u _ _ hv, max_u64]; omega))
      rw [or8u _ _ hv, ← beu_succ _ (by omega)]
      repeat (first | refine wW ?_ | intro b)
      exact at_intro (i + 1) ⟨by omega, by omega⟩ ⟨rfl, rfl, rfl, rfl, rfl, rfl, rfl, rfl, trivial⟩ (Ent.refl _)
    have h2 := of_decide_eq_false h2
    have hi2 : i = s.length := by omega
    subst hi2
    rw [List.take_length]
    repeat (first | refine wW ?_ | intro b)
    refine l_plain rfl (s_append (i := 2) rfl rfl rfl (Src.some _ _ _ _ _ rfl (rdn_all 0 rfl)) rfl rfl (by simp) rfl (by omega) (by omega) rfl ?_)
    intro a c
    repeat (first | refine wW ?_ | intro b)
    refine l_plain rfl ?_
    apply s_val rfl rfl
    · exact RunS.v (r_slLo rfl rfl (by omega))
    repeat (first | refine wW ?_ | intro b)
    refine at_intro ⟨off + (s.length + 1), _, _, _, a, c, acc ++ [(.iface 2 (.int .i64 (IntKind.i64.wrap (beu 18446744073709551615 s : Nat))), .i64 (IntKind.i64.wrap (beu 18446744073709551615 s : Nat)))], f - 1⟩ ?_ ⟨rfl, by rw [List.length_append]; rfl, rfl, trivial⟩ (hp_next (p := (.iface 2 (.int .i64 (IntKind.i64.wrap (beu 18446744073709551615 s : Nat))), .i64 (IntKind.i64.wrap (beu 18446744073709551615 s : Nat)))) (by unfold anyP; rfl) a c acc _ ib ext F _ _ _ _ _)
    exact inv_next hI hl (s := .i64 (IntKind.i64.wrap (beu 18446744073709551615 s : Nat))) (n := s.length + 1) (hdec) (by omega) (by dsimp only; omega) _ rfl _ _ _ _ _ (by dsimp only; omega) (by dsimp only; omega) (fun hh => adv1 (k := s.length) (by omega) (by omega) (by dsimp only <;> omega))
  have hy' : y = false := by
    cases y
    · rfl
    · exact absurd (hy.1 rfl).2 eg13
  subst hy'
  refine c_condF rfl ?_
  refine c_cut (α := Bool) (fun y => [(0, .slice (some ⟨ib, off, none⟩) len cap), (2, .slice oa acc.length oc), (4, .slice (some ⟨ib, 0, none⟩) bs.length ext.length), (5, .int .u8 (t : Nat)), (34, .int .u8 (t : Nat)), (446, .bool y)]) (fun _ => blk ib (cl (u8s ext) 5) :: slP (.slice oa acc.length oc) 20 1 (acc.map Prod.fst) :: anys acc :: F) (fun y => y = true ↔ 77 ≤ t ∧ t ≤ 84) ?_ ?_
  · repeat (first | refine wW ?_ | intro b)
    refine c_cond rfl (fun h => ?_) (fun h => ?_)
    · have e := of_decide_eq_true h
      repeat (first | refine wW ?_ | intro b)
      exact at_intro _ ⟨fun _ => by omega, fun _ => h⟩ ⟨rfl, rfl, rfl, rfl, rfl, rfl, trivial⟩ (Ent.refl _)
    have g77 := of_decide_eq_false h
    repeat (first | refine wW ?_ | intro b)
    refine c_cond rfl (fun h => ?_) (fun h => ?_)
    · have e := of_decide_eq_true h
      repeat (first | refine wW ?_ | intro b)
      exact at_intro _ ⟨fun _ => by omega, fun _ => h⟩ ⟨rfl, rfl, rfl, rfl, rfl, rfl, trivial⟩ (Ent.refl _)
    have g78 := of_decide_eq_false h
    repeat (first | refine wW ?_ | intro b)
    refine c_cond rfl (fun h => ?_) (fun h => ?_)
    · have e := of_decide_eq_true h
      repeat (first | refine wW ?_ | intro b)
      exact at_intro _ ⟨fun _ => by omega, fun _ => h⟩ ⟨rfl, rfl, rfl, rfl, rfl, rfl, trivial⟩ (Ent.refl _)
    have g79 := of_decide_eq_false h
    repeat (first | refine wW ?_ | intro b)
    refine c_cond rfl (fun h => ?_) (fun h => ?_)
    · have e := of_decide_eq_true h
      repeat (first | refine wW ?_ | intro b)
      exact at_intro _ ⟨fun _ => by omega, fun _ => h⟩ ⟨rfl, rfl, rfl, rfl, rfl, rfl, trivial⟩ (Ent.refl _)
    have g80 := of_decide_eq_false h
    repeat (first | refine wW ?_ | intro b)
    refine c_cond rfl (fun h => ?_) (fun h => ?_)
    · have e := of_decide_eq_true h
      repeat (first | refine wW ?_ | intro b)
      exact at_intro _ ⟨fun _ => by omega, fun _ => h⟩ ⟨rfl, rfl, rfl, rfl, rfl, rfl, trivial⟩ (Ent.refl _)
    have g81 := of_decide_eq_false h
    repeat (first | refine wW ?_ | intro b)
    refine c_cond rfl (fun h => ?_) (fun h => ?_)
    · have e := of_decide_eq_true h
      repeat (first | refine wW ?_ | intro b)
      exact at_intro _ ⟨fun _ => by omega, fun _ => h⟩ ⟨rfl, rfl, rfl, rfl, rfl, rfl, trivial⟩ (Ent.refl _)
    have g82 := of_decide_eq_false h
    repeat (first | refine wW ?_ | intro b)
    refine c_cond rfl (fun h => ?_) (fun h => ?_)
    · have e := of_decide_eq_true h
      repeat (first | refine wW ?_ | intro b)
      exact at_intro _ ⟨fun _ => by omega, fun _ => h⟩ ⟨rfl, rfl, rfl, rfl, rfl, rfl, trivial⟩ (Ent.refl _)
    have g83 := of_decide_eq_false h
    repeat (first | refine wW ?_ | intro b)
    exact at_intro _ ⟨fun h => by have := of_decide_eq_true h; omega, fun _ => decide_eq_true (by omega)⟩ ⟨rfl, rfl, rfl, rfl, rfl, rfl, trivial⟩ (Ent.refl _)
  rintro y hy
  by_cases eg14 : t ≤ 84
  · have hy' : y = true := hy.2 (by omega)
    subst hy'
    refine c_condT rfl ?_
    repeat (first | refine wW ?_ | intro b)
    refine l_plain rfl ?_
    apply s_val rfl rfl
    · exact RunS.v (r_slLo rfl rfl (by omega))
    repeat (first | refine wW ?_ | intro b)
    rw [wi t htl]
    repeat (first | refine wW ?_ | intro b)
    obtain ⟨nn, hn⟩ : ∃ nn, nn = t - 76 := ⟨_, rfl⟩
    rw [show 1 + (t : Int) - 77 = (nn : Nat) by omega]
    repeat (first | refine wW ?_ | intro b)
    refine c_cond rfl (fun h => ?_) (fun h => ?_)
    · have h := of_decide_eq_true h
      repeat (first | refine wW ?_ | intro b)
      exact at_intro (_, _, _) ⟨inv_bad hI hl (by unfold dec1; simp only [ht]; rw [if_neg (by omega), if_neg (by omega), if_neg (by omega), if_neg (by omega), if_neg (by omega), if_neg (by omega), if_neg (by omega), if_neg (by omega), if_neg (by omega), if_neg (by omega), if_neg (by omega), if_neg (by omega), if_neg (by omega), if_neg (by omega), if_pos (by omega)]; rw [← hn, taken_bad _ _ _ _ (by rw [hlen]; omega) (by rw [hlen]; omega)]), by dsimp only; omega⟩ ⟨rfl, rfl, trivial⟩ (arr_ent 2 [0] _)
    have h := of_decide_eq_false h
    rw [adv_at (n := 1) rfl (by omega)]
    repeat (first | refine wW ?_ | intro b)
    obtain ⟨s, hs⟩ : ∃ s, s = ((bs.drop off).drop 1).take nn := ⟨_, rfl⟩
    have hsl : s.length = nn := by rw [hs, List.length_take, List.length_drop, hlen]; omega
    have hgs : ∀ i, i < s.length → (u8s ext)[off + 1 + i]? = some (Value.int IntKind.u8 (at1 s i : Nat)) := fun i hi => by rw [hs, at1_take _ _ _ _ (by omega), show off + 1 + i = off + (1 + i) by omega]; exact hget (1 + i) (by omega)
    have hdec : dec1 (bs.drop off) = .ok (.i64 (bei 0 s)) ((bs.drop off).drop (nn + 1)) := by unfold dec1; simp only [ht]; rw [if_neg (by omega), if_neg (by omega), if_neg (by omega), if_neg (by omega), if_neg (by omega), if_neg (by omega), if_neg (by omega), if_neg (by omega), if_neg (by omega), if_neg (by omega), if_neg (by omega), if_neg (by omega), if_neg (by omega), if_neg (by omega), if_pos (by omega)]; rw [← hn, taken_ok _ _ _ _ (by rw [hlen]; omega), ← hs]
    subst hsl
    refine l_plain rfl ?_
    apply s_val rfl rfl
    · exact RunS.v (r_slHi rfl rfl (by omega))
    rw [show (s.length : Int).toNat = s.length by omega]
    repeat (first | refine wW ?_ | intro b)
    refine c_loop (α := Nat) (fun i => [(0, .slice (some ⟨ib, off + 1, none⟩) (len - (1 : Int).toNat) (cap - (1 : Int).toNat)), (2, .slice oa acc.length oc), (4, .slice (some ⟨ib, 0, none⟩) bs.length ext.length), (23, .int .i64 (s.length : Nat)), (24, .int .i64 (bei 0 (s.take i))), (467, .slice (some ⟨ib, off + 1, none⟩) s.length (cap - (1 : Int).toNat)), (468, .int .i64 (s.length : Nat)), (469, .int .i64 (i : Nat))]) (fun _ => blk ib (cl (u8s ext) 5) :: slP (.slice oa acc.length oc) 20 1 (acc.map Prod.fst) :: anys acc :: F) (fun i => i ≤ s.length) (fun i => s.length - i) 0 (Nat.zero_le _) ⟨rfl, rfl, rfl, rfl, rfl, rfl, rfl, rfl, trivial⟩ (Ent.refl _) ?_
    intro i hi
    repeat (first | refine wW ?_ | intro b)
    refine c_cond rfl (fun h2 => ?_) (fun h2 => ?_)
    · have h2 := of_decide_eq_true h2
      have hv := at1_lt s i
      repeat (first | refine wW ?_ | intro b)
      refine l_plain rfl ?_
      apply s_val rfl rfl
      · exact RunS.v (r_index (i := i) rfl rfl rfl (by omega))
      rw [Nat.mul_one]
      refine l_plain rfl ?_
      apply s_val rfl rfl
      · exact r_load rfl rfl (rd_blk 0 rfl (hgs i (by omega)))
      repeat (first | refine wW ?_ | intro b)
      refine l_plain rfl ?_
      apply s_val rfl rfl
      · exact RunS.v (r_shl rfl rfl (by decide))
      repeat (first | refine wW ?_ | intro b)
      rw [wi _ hv]
      refine l_plain rfl ?_
      apply s_val rfl rfl
      · exact RunS.v (r_bits rfl rfl (or8i _ _ hv) (by simp))
      rw [← bei_succ _ (by omega)]
      repeat (first | refine wW ?_ | intro b)
      exact at_intro (i + 1) ⟨by omega, by omega⟩ ⟨rfl, rfl, rfl, rfl, rfl, rfl, rfl, rfl, trivial⟩ (Ent.refl _)
    have h2 := of_decide_eq_false h2
    have hi2 : i = s.length := by omega
    subst hi2
    rw [List.take_length]
    repeat (first | refine wW ?_ | intro b)
    refine l_plain rfl (s_append (i := 2) rfl rfl rfl (Src.some _ _ _ _ _ rfl (rdn_all 0 rfl)) rfl rfl (by simp) rfl (by omega) (by omega) rfl ?_)
    intro a c
    repeat (first | refine wW ?_ | intro b)
    refine l_plain rfl ?_
    apply s_val rfl rfl
    · exact RunS.v (r_slLo rfl rfl (by omega))
    repeat (first | refine wW ?_ | intro b)
    refine at_intro ⟨off + (s.length + 1), _, _, _, a, c, acc ++ [(.iface 2 (.int .i64 (bei 0 s)), .i64 (bei 0 s))], f - 1⟩ ?_ ⟨rfl, by rw [List.length_append]; rfl, rfl, trivial⟩ (hp_next (p := (.iface 2 (.int .i64 (bei 0 s)), .i64 (bei 0 s))) (by unfold anyP; rfl) a c acc _ ib ext F _ _ _ _ _)
    exact inv_next hI hl (s := .i64 (bei 0 s)) (n := s.length + 1) (hdec) (by omega) (by dsimp only; omega) _ rfl _ _ _ _ _ (by dsimp only; omega) (by dsimp only; omega) (fun hh => adv1 (k := s.length) (by omega) (by omega) (by dsimp only <;> omega))
  have hy' : y = false := by
    cases y
    · rfl
    · exact absurd (hy.1 rfl).2 eg14
  subst hy'
  refine c_condF rfl ?_
  repeat (first | refine wW ?_ | intro b)
  refine l_plain rfl ?_
  apply s_val rfl rfl
  · exact RunS.v (r_index (i := 0) rfl rfl rfl hl)
  rw [Nat.zero_mul]
  refine l_plain rfl ?_
  apply s_val rfl rfl
  · exact r_load rfl rfl (rd_blk 0 rfl (hget 0 hl))
  rw [ht]
  repeat (first | refine wW ?_ | intro b)
  rw [wi t htl]
  repeat (first | refine wW ?_ | intro b)
  refine l_plain rfl (s_append (i := 2) rfl rfl rfl (Src.some _ _ _ _ _ rfl (rdn_all 0 rfl)) rfl rfl (by simp) rfl (by omega) (by omega) rfl ?_)
  intro a c
  repeat (first | refine wW ?_ | intro b)
  refine l_plain rfl ?_
  apply s_val rfl rfl
  · exact RunS.v (r_slLo rfl rfl (by omega))
  repeat (first | refine wW ?_ | intro b)
  refine at_intro ⟨off + (1), _, _, _, a, c, acc ++ [(.iface 2 (.int .i64 ((t : Int) - 85)), .i64 ((t : Int) - 85))], f - 1⟩ ?_ ⟨rfl, by rw [List.length_append]; rfl, rfl, trivial⟩ (hp_next (p := (.iface 2 (.int .i64 ((t : Int) - 85)), .i64 ((t : Int) - 85))) (by unfold anyP; rfl) a c acc _ ib ext F _ _ _ _ _)
  exact inv_next hI hl (s := .i64 ((t : Int) - 85)) (n := 1) (by unfold dec1; simp only [ht]; rw [if_neg (by omega), if_neg (by omega), if_neg (by omega), if_neg (by omega), if_neg (by omega), if_neg (by omega), if_neg (by omega), if_neg (by omega), if_neg (by omega), if_neg (by omega), if_neg (by omega), if_neg (by omega), if_neg (by omega), if_neg (by omega), if_neg (by omega)]) (by omega) (by dsimp only; omega) _ rfl _ _ _ _ _ (by dsimp only; omega) (by dsimp only; omega) (fun hh => adv_at rfl (by omega))
end Go.Proofs.YtfebpbflpdppiaaDoor
