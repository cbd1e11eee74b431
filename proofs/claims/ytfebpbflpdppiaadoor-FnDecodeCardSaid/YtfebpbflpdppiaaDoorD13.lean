/- Walks over Decode of no bytes. -/
import Derived.Test.YtfebpbflpdppiaaDoorD12
namespace Go.Proofs.YtfebpbflpdppiaaDoor
open Go Go.Sl
set_option maxRecDepth 100000
attribute [local irreducible] wpList Code.wp Exit.then Exit.inBlock bodyPost RunS RunV G St Ct Sat Ent At Rd GQ QL wpAny wpOp wpQuiet slP Sl.ex sep
theorem DecodeScalars_nil : Ct Tryd.prog 13 #[.slice none 0 0] [] (fun v B => v = .tuple #[.slice none 0 0, .nilIface] ∧ B = []) nev := by
  refine Ct.of Tryd.func13 rfl Tryd.ntmps13 rfl fun m F => ?_
  repeat (first | refine wW ?_ | intro b)
  refine c_scope (α := Unit) 0 (fun _ => []) (fun _ => F) (fun _ => False) rfl ?_ (fun _ h => h.elim)
  repeat (first | refine wW ?_ | intro b)
  refine c_loop (α := Unit) (fun _ => [(0, .slice none 0 0), (2, .slice none 0 0)]) (fun _ => F) (fun _ => True) (fun _ => 0) () trivial ⟨rfl, rfl, trivial⟩ (Ent.refl _) ?_
  intro _ _
  repeat (first | refine wW ?_ | intro b)
  refine l_plain rfl (s_appNil0 (size := 1) rfl rfl rfl ?_)
  repeat (first | refine wW ?_ | intro b)
  exact e_ret2 [] rfl rfl rfl ⟨rfl, rfl⟩ (Ent.refl _)
theorem Decode_nil : Ct Tryd.prog 5 #[.slice none 0 0] [] (fun v B => v = .tuple #[.slice none 0 0, .int .i64 0] ∧ B = []) nev := by
  refine Ct.ofD Tryd.func5 rfl Tryd.ntmps5 rfl fun m F => ?_
  repeat (first | refine wW ?_ | intro b)
  rename_i b2
  show G 31 [] [(3, .pointer (some ⟨b, 0, none⟩)), (2, .pointer (some ⟨b2, 0, none⟩)), (0, .slice none 0 0)] m (blk b (cl [.int .i64 0] 3) :: blk b2 (cl [.slice none 0 0] 24) :: F) _
  refine l_plain rfl ?_
  apply s_val rfl rfl
  · exact RunS.v (r_makeFn rfl)
  refine l_plain rfl (s_defer rfl rfl ?_)
  repeat (first | refine wW ?_ | intro b)
  refine l_plain rfl (s_call rfl rfl DecodeScalars_nil [] rfl ?_ (fun _ _ h => h.elim))
  rintro _ _ ⟨rfl, rfl⟩
  repeat (first | refine wW ?_ | intro b)
  refine c_loop (α := Unit) (fun _ => [(2, .pointer (some ⟨b2, 0, none⟩)), (3, .pointer (some ⟨b, 0, none⟩)), (18, .slice none 0 0), (19, .int .i64 0), (20, .int .i64 0)]) (fun _ => blk b (cl [.int .i64 0] 3) :: blk b2 (cl [.slice none 0 0] 24) :: F) (fun _ => True) (fun _ => 0) () trivial ⟨rfl, rfl, rfl, rfl, rfl, trivial⟩ (Ent.refl _) ?_
  intro _ _
  repeat (first | refine wW ?_ | intro b)
  refine e_retR Tryd.func12 rfl rfl Tryd.ntmps12 (by decide) (by decide) (by decide) (Nat.le_of_ble_eq_true rfl) ?_
  exact fun tmps w g hw => ⟨_, res_cc rfl rfl rfl rfl rfl (rd_blk 1 rfl rfl) (rd_blk 0 rfl rfl) tmps w g hw, [], ⟨rfl, rfl⟩, hw.ent (arr_ent 2 [] _)⟩
end Go.Proofs.YtfebpbflpdppiaaDoor
