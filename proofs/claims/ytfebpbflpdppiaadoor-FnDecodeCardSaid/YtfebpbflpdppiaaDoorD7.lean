/- Walks over the reference's readers of scalars: kinds, kind, class, scalars, Encodes, and specScalars. -/
import Derived.Test.YtfebpbflpdppiaaDoorD6b
import Derived.Test.YtfebpbflpdppiaaDoorFld
namespace Go.Proofs.YtfebpbflpdppiaaDoor
open Go Go.Sl
set_option maxRecDepth 100000
attribute [local irreducible] wpList Code.wp Exit.then Exit.inBlock bodyPost RunS RunV G St Ct Sat Ent At Rd GQ QL wpAny wpOp wpQuiet slP Sl.ex sep
def names : List (List UInt8) := [[110, 105, 108],[98, 111, 111, 108],[105, 110, 116, 56],[105, 110, 116, 49, 54],[105, 110, 116, 51, 50],[105, 110, 116],[105, 110, 116, 54, 52],[117, 105, 110, 116, 56],[117, 105, 110, 116, 49, 54],[117, 105, 110, 116, 51, 50],[117, 105, 110, 116],[117, 105, 110, 116, 54, 52],[102, 108, 111, 97, 116, 51, 50],[102, 108, 111, 97, 116, 54, 52],[99, 111, 109, 112, 108, 101, 120, 54, 52],[99, 111, 109, 112, 108, 101, 120, 49, 50, 56],[98, 121, 116, 101, 115],[115, 116, 114, 105, 110, 103]]
def namesV : List Value := names.map fun s => .string ⟨s.toArray⟩
def kNum : Sc → Nat
  | .nil => 0
  | .bool _ => 1
  | .i64 _ => 6
  | .u64 _ => 11
  | .f64 _ => 13
  | .c128 _ _ => 15
  | .bytes _ => 16
  | .str _ => 17
def kCls : Sc → Nat
  | .nil => 0
  | .bool _ => 1
  | .bytes _ => 3
  | .str _ => 4
  | _ => 2
theorem kNum_lt (s : Sc) : kNum s < 18 := by cases s <;> exact Nat.le_of_ble_eq_true rfl
theorem names_hit (s : Sc) : (names.getD (kNum s) [] == kName s) = true := by cases s <;> rfl
theorem names_miss (s : Sc) : ∀ i, i < kNum s → (names.getD i [] == kName s) = false := by cases s <;> simp only [kNum, kName] <;> decide
theorem namesV_get {i : Nat} (h : i < 18) : namesV[i]? = some (Value.string ⟨(names.getD i []).toArray⟩) := by
  have : i < names.length := h
  simp [namesV, this]
theorem fm_get {l : List Sc} {i : Nat} {s : Sc} (h : l[i]? = some s) : ((l.flatMap scL).drop (i * 6)).take 6 = scL s := by
  induction l generalizing i with
  | nil => simp at h
  | cons x l ih =>
    cases i with
    | zero => simp at h; subst h; rfl
    | succ i =>
      simp at h
      rw [List.flatMap_cons, show (i + 1) * 6 = (scL x).length + i * 6 by rw [scL_len]; omega, List.drop_length_add_append]
      exact ih h
theorem kinds_c : Ct Tryd.prog 61 #[] [] (fun v B => ∃ b, v = .slice (some ⟨b, 0, none⟩) 18 18 ∧ B = [blk b (cl namesV 9)]) nev := by
  refine Ct.of Tryd.func61 rfl Tryd.ntmps61 rfl fun m F => ?_
  repeat (first | refine wW ?_ | intro b)
  exact e_ret1 [blk _ (cl namesV 9)] rfl rfl ⟨_, rfl, rfl⟩ (Ent.refl _)
theorem kind_c (s : Sc) : Ct Tryd.prog 36 #[.agg (scL s).toArray] [] (fun v B => v = .int .i64 (kNum s : Nat) ∧ B = []) nev := by
  refine Ct.of Tryd.func36 rfl Tryd.ntmps36 rfl fun m F => ?_
  have hk := kNum_lt s
  repeat (first | refine wW ?_ | intro b)
  refine l_plain rfl (s_call rfl rfl kinds_c [] rfl ?_ (fun _ _ h => h.elim))
  rintro _ _ ⟨nb, rfl, rfl⟩
  repeat (first | refine wW ?_ | intro b)
  refine c_loop (α := Nat) (fun i => [(1, .pointer (some ⟨b, 0, none⟩)), (5, .slice (some ⟨nb, 0, none⟩) 18 18), (6, .int .i64 18), (7, .int .i64 (i : Nat))]) (fun _ => blk nb (cl namesV 9) :: blk b (cl (scL s) 36) :: F) (fun i => i ≤ kNum s) (fun i => 18 - i) 0 (Nat.zero_le _) ⟨rfl, rfl, rfl, rfl, trivial⟩ (Ent.refl _) ?_
  intro i hi
  repeat (first | refine wW ?_ | intro b)
  refine c_condT (by rw [show decide ((i : Int) < 18) = true from decide_eq_true (by omega)]; rfl) ?_
  repeat (first | refine wW ?_ | intro b)
  refine l_plain rfl ?_
  apply s_val rfl rfl
  · exact RunS.v (r_index (i := i) rfl rfl rfl (by omega))
  rw [Nat.mul_one, Nat.zero_add]
  refine l_plain rfl ?_
  apply s_val rfl rfl
  · exact r_load rfl rfl (rd_blk 0 rfl (namesV_get (by omega)))
  repeat (first | refine wW ?_ | intro b)
  rw [ByteArray.toList_mk, ByteArray.toList_mk]
  by_cases e : i = kNum s
  · subst e
    rw [names_hit]
    repeat (first | refine wW ?_ | intro b)
    exact e_ret1 [] rfl rfl ⟨rfl, rfl⟩ (arr_ent 2 [] _)
  · rw [names_miss s i (by omega)]
    repeat (first | refine wW ?_ | intro b)
    exact at_intro (i + 1) ⟨by omega, by omega⟩ ⟨rfl, rfl, rfl, rfl, trivial⟩ (Ent.refl _)
theorem class_c (s : Sc) : Ct Tryd.prog 19 #[.agg (scL s).toArray] [] (fun v B => v = .int .i64 (kCls s : Nat) ∧ B = []) nev := by
  refine Ct.of Tryd.func19 rfl Tryd.ntmps19 rfl fun m F => ?_
  repeat (first | refine wW ?_ | intro b)
  refine l_plain rfl (s_call rfl rfl (kind_c s) [] rfl ?_ (fun _ _ h => h.elim))
  rintro _ _ ⟨rfl, rfl⟩
  cases s
  all_goals
    simp only [kNum]
    repeat (first | refine wW ?_ | intro b)
    exact e_ret1 [] rfl rfl ⟨rfl, rfl⟩ (arr_ent 1 [] _)
end Go.Proofs.YtfebpbflpdppiaaDoor
