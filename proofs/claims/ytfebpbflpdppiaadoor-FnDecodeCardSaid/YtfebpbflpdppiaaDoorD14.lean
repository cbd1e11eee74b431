/- The walk over Collate at what awakeScalars asks. -/

import Derived.Test.YtfebpbflpdppiaaDoorD13
namespace Go.Proofs.YtfebpbflpdppiaaDoor
open Go Go.Sl
set_option maxRecDepth 100000
attribute [local irreducible] wpList Code.wp Exit.then Exit.inBlock bodyPost RunS RunV G St Ct Sat Ent At Rd GQ QL wpAny wpOp wpQuiet slP Sl.ex sep
attribute [local irreducible] anys anyP
theorem anys_one (p : Value × Sc) (L : List HP) : Ent (anys [p] :: L) (anyP p :: L) := by
  unfold anys
  exact sep_open [anyP p] L
theorem ctype_nil : Ct Tryd.prog 44 #[.nilIface] [] (fun v B => v = .tuple #[.nilIface, .nilIface] ∧ B = []) nev := by
  refine Ct.of Tryd.func44 rfl Tryd.ntmps44 rfl fun m F => ?_
  repeat (first | refine wWD ?_ | intro b)
  first | exact e_ret1 [] rfl rfl ⟨rfl, rfl⟩ (Ent.refl _) | exact e_ret0 [] rfl ⟨rfl, rfl⟩ (Ent.refl _) | exact e_nor0 [] rfl ⟨rfl, rfl⟩ (Ent.refl _) | exact e_ret2 [] rfl rfl rfl ⟨rfl, rfl⟩ (Ent.refl _)
theorem ctype_str (t : ByteArray) : Ct Tryd.prog 44 #[.iface 9 (.string t)] [] (fun v B => v = .tuple #[.iface 9 (.string t), .nilIface] ∧ B = []) nev := by
  refine Ct.of Tryd.func44 rfl Tryd.ntmps44 rfl fun m F => ?_
  repeat (first | refine wWD ?_ | intro b)
  first | exact e_ret1 [] rfl rfl ⟨rfl, rfl⟩ (Ent.refl _) | exact e_ret0 [] rfl ⟨rfl, rfl⟩ (Ent.refl _) | exact e_nor0 [] rfl ⟨rfl, rfl⟩ (Ent.refl _) | exact e_ret2 [] rfl rfl rfl ⟨rfl, rfl⟩ (Ent.refl _)
theorem btexts_c : Ct Tryd.prog 23 #[.bool false] [] (fun v B => v = .nilFunc ∧ B = []) nev := by
  refine Ct.of Tryd.func23 rfl Tryd.ntmps23 rfl fun m F => ?_
  repeat (first | refine wWD ?_ | intro b)
  first | exact e_ret1 [] rfl rfl ⟨rfl, rfl⟩ (Ent.refl _) | exact e_ret0 [] rfl ⟨rfl, rfl⟩ (Ent.refl _) | exact e_nor0 [] rfl ⟨rfl, rfl⟩ (Ent.refl _) | exact e_ret2 [] rfl rfl rfl ⟨rfl, rfl⟩ (Ent.refl _)
theorem lCollate_c (a1 a2 : Option Addr) (c1 c2 : Nat) (t : ByteArray) : Ct Tryd.prog 22 #[.slice a1 1 c1, .slice a2 1 c2, .nilFunc] [slP (.slice a1 1 c1) 20 1 [.nilIface], slP (.slice a2 1 c2) 20 1 [.iface 9 (.string t)]] (fun v B => v = .tuple #[.int .i64 (-1), .nilIface] ∧ B = []) nev := by
  refine Ct.of Tryd.func22 rfl Tryd.ntmps22 rfl fun m F => ?_
  refine slP_some (by simp) fun s1 hs1 _ _ _ => ?_
  subst hs1
  refine G.ent (arr_ent 0 [1, 0] _) ?_
  refine slP_some (by simp) fun s2 hs2 _ _ _ => ?_
  subst hs2
  repeat (first | refine wWD ?_ | intro b)
  refine c_loop (α := Unit) (fun _ => [(0, .slice (some ⟨s1, 0, none⟩) 1 c1), (1, .slice (some ⟨s2, 0, none⟩) 1 c2), (6, .int .i64 1), (95, .slice (some ⟨s1, 0, none⟩) 1 c1), (96, .int .i64 1), (97, .int .i64 0)]) (fun _ => slP (.slice (some ⟨s2, 0, none⟩) 1 c2) 20 1 [.iface 9 (.string t)] :: slP (.slice (some ⟨s1, 0, none⟩) 1 c1) 20 1 [.nilIface] :: F) (fun _ => True) (fun _ => 0) () trivial ⟨rfl, rfl, rfl, rfl, rfl, rfl, trivial⟩ (Ent.refl _) ?_
  intro _ _
  repeat (first | refine wWD ?_ | intro b)
  refine l_plain rfl ?_
  apply s_val rfl rfl
  · exact RunS.v (r_index (i := 0) rfl rfl rfl (by omega))
  refine l_plain rfl ?_
  apply s_val rfl rfl
  · exact r_load rfl rfl (rd_sl 1 rfl rfl)
  repeat (first | refine wWD ?_ | intro b)
  refine l_plain rfl ?_
  apply s_val rfl rfl
  · exact RunS.v (r_index (i := 0) rfl rfl rfl (by omega))
  refine l_plain rfl ?_
  apply s_val rfl rfl
  · exact r_load rfl rfl (rd_sl 0 rfl rfl)
  repeat (first | refine wWD ?_ | intro b)
  refine l_plain rfl (s_call rfl rfl ctype_nil [] rfl ?_ (fun _ _ h => h.elim))
  rintro _ _ ⟨rfl, rfl⟩
  repeat (first | refine wWD ?_ | intro b)
  refine l_plain rfl (s_call rfl rfl (ctype_str t) [] rfl ?_ (fun _ _ h => h.elim))
  rintro _ _ ⟨rfl, rfl⟩
  repeat (first | refine wWD ?_ | intro b)
  refine l_plain rfl ?_
  apply s_val rfl rfl
  · exact RunS.v (r_neg rfl)
  repeat (first | refine wWD ?_ | intro b)
  exact e_ret2 [] rfl rfl rfl ⟨rfl, rfl⟩ (arr_ent 2 [] _)
theorem Collate_c (a1 a2 : Option Addr) (c1 c2 : Nat) (t : List UInt8) (ht : t.length < 65536) : Ct Tryd.prog 11 #[.slice a1 1 c1, .slice a2 1 c2, .bool false] [slP (.slice a1 1 c1) 36 6 ([Sc.nil].flatMap scL), slP (.slice a2 1 c2) 36 6 ([Sc.str t].flatMap scL)]
    (fun v B => v = .tuple #[.int .i64 (-1), .int .i64 0] ∧ B = [slP (.slice a2 1 c2) 36 6 ([Sc.str t].flatMap scL)]) nev := by
  refine Ct.of Tryd.func11 rfl Tryd.ntmps11 rfl fun m F => ?_
  repeat (first | refine wWD ?_ | intro b)
  refine l_plain rfl (s_call rfl rfl (values_c a1 c1 [.nil] (by decide) (by simp [small, kS])) [0] rfl ?_ (fun _ _ h => h.elim))
  rintro _ _ ⟨a3, c3, acc, hs1, ho1, rfl, rfl⟩
  repeat (first | refine wWD ?_ | intro b)
  refine l_plain rfl (s_call rfl rfl (values_c a2 c2 [.str t] (Nat.le_of_ble_eq_true rfl) (by simpa [small, kS] using ht)) [3] rfl ?_ (fun _ _ h => h.elim))
  rintro _ _ ⟨a4, c4, acc2, hs2, ho2, rfl, rfl⟩
  repeat (first | refine wWD ?_ | intro b)
  refine l_plain rfl (s_call rfl rfl btexts_c [] rfl ?_ (fun _ _ h => h.elim))
  rintro _ _ ⟨rfl, rfl⟩
  obtain ⟨v1, rfl⟩ : ∃ v1, acc = [(v1, Sc.nil)] := by
    match acc, hs1 with
    | [(v1, s1)], h => exact ⟨v1, by simp at h; rw [h]⟩
  obtain ⟨v2, rfl⟩ : ∃ v2, acc2 = [(v2, Sc.str t)] := by
    match acc2, hs2 with
    | [(v2, s2)], h => exact ⟨v2, by simp at h; rw [h]⟩
  refine G.ent (L' := anys [(v1, Sc.nil)] :: anys [(v2, Sc.str t)] :: slP (.slice a3 1 c3) 20 1 [v1] :: slP (.slice a4 1 c4) 20 1 [v2] :: slP (.slice a2 1 c2) 36 6 ([Sc.str t].flatMap scL) :: F) (arr_ent 1 [4, 1, 2, 0, 0] _) ?_
  refine G.ent (anys_one _ _) ?_
  refine anyE (p := v1 = _) (fun _ h => any_val h rfl) ?_
  rintro rfl
  refine G.ent (Ent.drop.trans (anys_one _ _)) ?_
  refine anyE (p := v2 = _) (fun _ h => any_val h rfl) ?_
  rintro rfl
  refine l_plain rfl (s_call rfl rfl (lCollate_c a3 a4 c3 c4 _) [1, 1] rfl ?_ (fun _ _ h => h.elim))
  rintro _ _ ⟨rfl, rfl⟩
  repeat (first | refine wWD ?_ | intro b)
  refine l_plain rfl (s_call rfl rfl kind_nil [] rfl ?_ (fun _ _ h => h.elim))
  rintro _ _ ⟨rfl, rfl⟩
  repeat (first | refine wWD ?_ | intro b)
  exact e_ret2 [_] rfl rfl rfl ⟨rfl, rfl⟩ (arr_ent 1 [1] _)
end Go.Proofs.YtfebpbflpdppiaaDoor
