/- Walks over the methods of InnerFiler, over whatever filer. Printed by a program (wip/tools/genZ9.py) · Walks over the methods of RollbackFiler outside a transaction, over whatever filer. Printed by a program (wip/tools/genZ10.py) · bitFiler: what a level holds; its small methods · Walks over the small methods of bitFiler · Walks over Truncate of bitFiler. -/
import Derived.Test.YtfebpbflpdppiaaGreatDoorL05
namespace Go.Proofs.YtfebpbflpdppiaaGreatDoor
open Go Go.Sl
set_option maxRecDepth 100000
theorem Ent.mid {X : HP} (B F : List HP) : Ent (B ++ X :: F) ((X :: B) ++ F) := Ent.perm List.perm_middle
/-- a result beside a part that stands -/
def wR (X : HP) (R : Value → List HP → Prop) : Value → List HP → Prop := fun v B => ∃ B', R v B' ∧ B = X :: B'
def wE (X : HP) (E : List PanicEntry → List HP → Prop) : List PanicEntry → List HP → Prop := fun c B => ∃ B', E c B' ∧ B = X :: B'
def icells (v' : Value) (off : Nat) : List Value := [v', .int .i64 (off : Nat)]
def iP (ib : Nat) (v' : Value) (off : Nat) : HP := blk ib (cl (icells v' off) 89)
theorem r_nilI {P : Program} {σ : Env} {od : Option Tmp} {ty : TypeId} {pos : String} {aft : Array Edge} {gd : Option (Nat × Bool)} {x : Operand} {T : TypeId} {v : Value} (hx : opd σ x = some (.iface T v)) : RunS P ⟨od, .nilCheck x, ty, pos, aft, gd⟩ σ (.iface T v) := fun c w g => by
  simp only [execOp, opd_eval g hx]; simp
attribute [local irreducible] wpList Code.wp Exit.then Exit.inBlock bodyPost RunS RunV G St Ct Sat Ent At Rd GQ QL wpAny wpOp wpQuiet slP Sl.ex sep
attribute [local irreducible] zf memf zpgs zpg pgl rng ov cutC zc mapO rdd
section
variable {ib off : Nat} {v' : Value} {A : HP} {R : Value → List HP → Prop} {E : List PanicEntry → List HP → Prop}

theorem IBeginUpdate_c (h : MCt Tryz.prog v' "BeginUpdate" [] [A] R E) : Ct Tryz.prog 86 #[.pointer (some ⟨ib, 0, none⟩)] [iP ib v' off, A] (wR (iP ib v' off) R) (wE (iP ib v' off) E) := by
  refine Ct.of Tryz.func86 rfl Tryz.ntmps86 rfl fun m F => ?_
  unfold iP
  repeat (first | refine wZ ?_ | intro b)
  refine l_plain rfl (s_invokeM rfl rfl rfl h [1] rfl ?_ ?_)
  · intro v B hR
    repeat (first | refine wZ ?_ | intro b)
    exact e_ret1 _ rfl rfl ⟨B, hR, rfl⟩ (Ent.mid _ _)
  · intro c B hR
    repeat (first | refine wZ ?_ | intro b)
    exact e_pan _ ⟨B, hR, rfl⟩ (Ent.mid _ _)

theorem IClose_c (h : MCt Tryz.prog v' "Close" [] [A] R E) : Ct Tryz.prog 87 #[.pointer (some ⟨ib, 0, none⟩)] [iP ib v' off, A] (wR (iP ib v' off) R) (wE (iP ib v' off) E) := by
  refine Ct.of Tryz.func87 rfl Tryz.ntmps87 rfl fun m F => ?_
  unfold iP
  repeat (first | refine wZ ?_ | intro b)
  refine l_plain rfl (s_invokeM rfl rfl rfl h [1] rfl ?_ ?_)
  · intro v B hR
    repeat (first | refine wZ ?_ | intro b)
    exact e_ret1 _ rfl rfl ⟨B, hR, rfl⟩ (Ent.mid _ _)
  · intro c B hR
    repeat (first | refine wZ ?_ | intro b)
    exact e_pan _ ⟨B, hR, rfl⟩ (Ent.mid _ _)

theorem IEndUpdate_c (h : MCt Tryz.prog v' "EndUpdate" [] [A] R E) : Ct Tryz.prog 88 #[.pointer (some ⟨ib, 0, none⟩)] [iP ib v' off, A] (wR (iP ib v' off) R) (wE (iP ib v' off) E) := by
  refine Ct.of Tryz.func88 rfl Tryz.ntmps88 rfl fun m F => ?_
  unfold iP
  repeat (first | refine wZ ?_ | intro b)
  refine l_plain rfl (s_invokeM rfl rfl rfl h [1] rfl ?_ ?_)
  · intro v B hR
    repeat (first | refine wZ ?_ | intro b)
    exact e_ret1 _ rfl rfl ⟨B, hR, rfl⟩ (Ent.mid _ _)
  · intro c B hR
    repeat (first | refine wZ ?_ | intro b)
    exact e_pan _ ⟨B, hR, rfl⟩ (Ent.mid _ _)

theorem IRollback_c (h : MCt Tryz.prog v' "Rollback" [] [A] R E) : Ct Tryz.prog 92 #[.pointer (some ⟨ib, 0, none⟩)] [iP ib v' off, A] (wR (iP ib v' off) R) (wE (iP ib v' off) E) := by
  refine Ct.of Tryz.func92 rfl Tryz.ntmps92 rfl fun m F => ?_
  unfold iP
  repeat (first | refine wZ ?_ | intro b)
  refine l_plain rfl (s_invokeM rfl rfl rfl h [1] rfl ?_ ?_)
  · intro v B hR
    repeat (first | refine wZ ?_ | intro b)
    exact e_ret1 _ rfl rfl ⟨B, hR, rfl⟩ (Ent.mid _ _)
  · intro c B hR
    repeat (first | refine wZ ?_ | intro b)
    exact e_pan _ ⟨B, hR, rfl⟩ (Ent.mid _ _)

theorem ISync_c (h : MCt Tryz.prog v' "Sync" [] [A] R E) : Ct Tryz.prog 94 #[.pointer (some ⟨ib, 0, none⟩)] [iP ib v' off, A] (wR (iP ib v' off) R) (wE (iP ib v' off) E) := by
  refine Ct.of Tryz.func94 rfl Tryz.ntmps94 rfl fun m F => ?_
  unfold iP
  repeat (first | refine wZ ?_ | intro b)
  refine l_plain rfl (s_invokeM rfl rfl rfl h [1] rfl ?_ ?_)
  · intro v B hR
    repeat (first | refine wZ ?_ | intro b)
    exact e_ret1 _ rfl rfl ⟨B, hR, rfl⟩ (Ent.mid _ _)
  · intro c B hR
    repeat (first | refine wZ ?_ | intro b)
    exact e_pan _ ⟨B, hR, rfl⟩ (Ent.mid _ _)

theorem IName_c (h : MCt Tryz.prog v' "Name" [] [A] R E) : Ct Tryz.prog 89 #[.pointer (some ⟨ib, 0, none⟩)] [iP ib v' off, A] (wR (iP ib v' off) R) (wE (iP ib v' off) E) := by
  refine Ct.of Tryz.func89 rfl Tryz.ntmps89 rfl fun m F => ?_
  unfold iP
  repeat (first | refine wZ ?_ | intro b)
  refine l_plain rfl (s_invokeM rfl rfl rfl h [1] rfl ?_ ?_)
  · intro v B hR
    repeat (first | refine wZ ?_ | intro b)
    exact e_ret1 _ rfl rfl ⟨B, hR, rfl⟩ (Ent.mid _ _)
  · intro c B hR
    repeat (first | refine wZ ?_ | intro b)
    exact e_pan _ ⟨B, hR, rfl⟩ (Ent.mid _ _)

theorem IPunchHole_c {a b : Int} (ha : -9223372036854775808 ≤ (off : Int) + a ∧ (off : Int) + a ≤ 9223372036854775807) (h : MCt Tryz.prog v' "PunchHole" [.int .i64 ((off : Int) + a), .int .i64 b] [A] R E) : Ct Tryz.prog 90 #[.pointer (some ⟨ib, 0, none⟩), .int .i64 a, .int .i64 b] [iP ib v' off, A] (wR (iP ib v' off) R) (wE (iP ib v' off) E) := by
  obtain ⟨rt, u, f, rfl, hm1, hm2, h⟩ := h
  refine Ct.of Tryz.func90 rfl Tryz.ntmps90 rfl fun m F => ?_
  unfold iP
  repeat (first | refine wY ?_ | intro b)
  have hE : Ent ([blk ib (cl (icells (.iface rt u) off) 89), A] ++ F) [blk ib (cl (icells (.iface rt u) off) 89)] := Ent.left [_] _
  refine h_any [blk ib (cl (icells (.iface rt u) off) 89)] 15 rfl ?_
  refine h_take (by assumption) 0 rfl (by kernel_rfl) (by kernel_rfl) (by kernel_rfl) rfl rfl rfl pQ rV ?_
  refine h_take (by assumption) 1 rfl (by kernel_rfl) (by kernel_rfl) (by kernel_rfl) rfl rfl rfl pQ rV ?_
  refine h_take (by assumption) 2 rfl (by kernel_rfl) (by kernel_rfl) (by kernel_rfl) rfl rfl rfl pQ rV ?_
  refine h_take (by assumption) 3 rfl (by kernel_rfl) (by kernel_rfl) (by kernel_rfl) rfl rfl rfl pQ rV ?_
  refine h_take (by assumption) 4 rfl (by kernel_rfl) (by kernel_rfl) (by kernel_rfl) rfl rfl rfl pQ rV ?_
  refine h_take (by assumption) 5 rfl (by kernel_rfl) (by kernel_rfl) (by kernel_rfl) rfl rfl rfl pQ rV ?_
  refine h_take (by assumption) 6 rfl (by kernel_rfl) (by kernel_rfl) (by kernel_rfl) rfl rfl rfl pQ rV ?_
  refine h_take (by assumption) 7 rfl (by kernel_rfl) (by kernel_rfl) (by kernel_rfl) rfl rfl rfl pQ rV ?_
  refine h_take (by assumption) 8 rfl (by kernel_rfl) (by kernel_rfl) (by kernel_rfl) rfl rfl rfl pQ rV ?_
  refine h_take (by assumption) 9 rfl (by kernel_rfl) (by kernel_rfl) (by kernel_rfl) rfl rfl rfl pQ rV ?_
  refine h_take (by assumption) 10 rfl (by kernel_rfl) (by kernel_rfl) (by kernel_rfl) rfl rfl rfl pQ rV ?_
  refine h_take (by assumption) 11 rfl (by kernel_rfl) (by kernel_rfl) (by kernel_rfl) rfl rfl rfl pQ (RunS.v (r_nilI rfl)) ?_
  refine h_take (by assumption) 12 rfl (by kernel_rfl) (by kernel_rfl) (by kernel_rfl) rfl rfl rfl pQ rV ?_
  refine h_one 13 (by kernel_rfl) rfl rfl ?_
  refine s_invokeM rfl rfl rfl (MCt.of h) [1] rfl ?_ ?_
  · intro v B hR
    have hE2 : Ent (B ++ blk ib (cl (icells (.iface rt u) off) 89) :: F) [blk ib (cl (icells (.iface rt u) off) 89)] := Ent.trans (Ent.mid _ _) (Ent.left [_] _)
    refine h_then hE2 ?_
    refine h_take (by assumption) 14 rfl (by kernel_rfl) (by kernel_rfl) (by kernel_rfl) rfl rfl rfl pQ rV ?_
    refine h_done (by kernel_rfl) ?_
    repeat (first | refine wZ ?_ | intro b)
    exact e_ret1 _ rfl rfl ⟨B, hR, rfl⟩ (Ent.mid _ _)
  · intro c B hR
    repeat (first | refine wZ ?_ | intro b)
    exact e_pan _ ⟨B, hR, rfl⟩ (Ent.mid _ _)

theorem ITruncate_c {a : Int} (ha : -9223372036854775808 ≤ a + (off : Int) ∧ a + (off : Int) ≤ 9223372036854775807) (h : MCt Tryz.prog v' "Truncate" [.int .i64 (a + (off : Int))] [A] R E) : Ct Tryz.prog 95 #[.pointer (some ⟨ib, 0, none⟩), .int .i64 a] [iP ib v' off, A] (wR (iP ib v' off) R) (wE (iP ib v' off) E) := by
  obtain ⟨rt, u, f, rfl, hm1, hm2, h⟩ := h
  refine Ct.of Tryz.func95 rfl Tryz.ntmps95 rfl fun m F => ?_
  unfold iP
  repeat (first | refine wY ?_ | intro b)
  have hE : Ent ([blk ib (cl (icells (.iface rt u) off) 89), A] ++ F) [blk ib (cl (icells (.iface rt u) off) 89)] := Ent.left [_] _
  refine h_any [blk ib (cl (icells (.iface rt u) off) 89)] 14 rfl ?_
  refine h_take (by assumption) 0 rfl (by kernel_rfl) (by kernel_rfl) (by kernel_rfl) rfl rfl rfl pQ rV ?_
  refine h_take (by assumption) 1 rfl (by kernel_rfl) (by kernel_rfl) (by kernel_rfl) rfl rfl rfl pQ rV ?_
  refine h_take (by assumption) 2 rfl (by kernel_rfl) (by kernel_rfl) (by kernel_rfl) rfl rfl rfl pQ rV ?_
  refine h_take (by assumption) 3 rfl (by kernel_rfl) (by kernel_rfl) (by kernel_rfl) rfl rfl rfl pQ rV ?_
  refine h_take (by assumption) 4 rfl (by kernel_rfl) (by kernel_rfl) (by kernel_rfl) rfl rfl rfl pQ rV ?_
  refine h_take (by assumption) 5 rfl (by kernel_rfl) (by kernel_rfl) (by kernel_rfl) rfl rfl rfl pQ rV ?_
  refine h_take (by assumption) 6 rfl (by kernel_rfl) (by kernel_rfl) (by kernel_rfl) rfl rfl rfl pQ rV ?_
  refine h_take (by assumption) 7 rfl (by kernel_rfl) (by kernel_rfl) (by kernel_rfl) rfl rfl rfl pQ rV ?_
  refine h_take (by assumption) 8 rfl (by kernel_rfl) (by kernel_rfl) (by kernel_rfl) rfl rfl rfl pQ rV ?_
  refine h_take (by assumption) 9 rfl (by kernel_rfl) (by kernel_rfl) (by kernel_rfl) rfl rfl rfl pQ rV ?_
  refine h_take (by assumption) 10 rfl (by kernel_rfl) (by kernel_rfl) (by kernel_rfl) rfl rfl rfl pQ (RunS.v (r_nilI rfl)) ?_
  refine h_take (by assumption) 11 rfl (by kernel_rfl) (by kernel_rfl) (by kernel_rfl) rfl rfl rfl pQ rV ?_
  refine h_one 12 (by kernel_rfl) rfl rfl ?_
  refine s_invokeM rfl rfl rfl (MCt.of h) [1] rfl ?_ ?_
  · intro v B hR
    have hE2 : Ent (B ++ blk ib (cl (icells (.iface rt u) off) 89) :: F) [blk ib (cl (icells (.iface rt u) off) 89)] := Ent.trans (Ent.mid _ _) (Ent.left [_] _)
    refine h_then hE2 ?_
    refine h_take (by assumption) 13 rfl (by kernel_rfl) (by kernel_rfl) (by kernel_rfl) rfl rfl rfl pQ rV ?_
    refine h_done (by kernel_rfl) ?_
    repeat (first | refine wZ ?_ | intro b)
    exact e_ret1 _ rfl rfl ⟨B, hR, rfl⟩ (Ent.mid _ _)
  · intro c B hR
    repeat (first | refine wZ ?_ | intro b)
    exact e_pan _ ⟨B, hR, rfl⟩ (Ent.mid _ _)

theorem IReadAt_c {a : Nat} {sl : Value} (ha : off + a ≤ 9223372036854775807) (hR2 : ∀ v B, R v B → ∃ x y, v = .tuple #[x, y]) (h : MCt Tryz.prog v' "ReadAt" [sl, .int .i64 ((off + a : Nat) : Int)] [A] R E) : Ct Tryz.prog 91 #[.pointer (some ⟨ib, 0, none⟩), sl, .int .i64 (a : Nat)] [iP ib v' off, A] (wR (iP ib v' off) R) (wE (iP ib v' off) E) := by
  obtain ⟨rt, u, f, rfl, hm1, hm2, h⟩ := h
  refine Ct.of Tryz.func91 rfl Tryz.ntmps91 rfl fun m F => ?_
  unfold iP
  repeat (first | refine wY ?_ | intro b)
  rw [decide_eq_false (by omega : ¬ ((a : Nat) : Int) < 0)]
  repeat (first | refine wY ?_ | intro b)
  have hE : Ent ([blk ib (cl (icells (.iface rt u) off) 89), A] ++ F) [blk ib (cl (icells (.iface rt u) off) 89)] := Ent.left [_] _
  refine h_any [blk ib (cl (icells (.iface rt u) off) 89)] 18 rfl ?_
  refine h_take (by assumption) 0 rfl (by kernel_rfl) (by kernel_rfl) (by kernel_rfl) rfl rfl rfl pQ rV ?_
  refine h_take (by assumption) 1 rfl (by kernel_rfl) (by kernel_rfl) (by kernel_rfl) rfl rfl rfl pQ rV ?_
  refine h_take (by assumption) 2 rfl (by kernel_rfl) (by kernel_rfl) (by kernel_rfl) rfl rfl rfl pQ rV ?_
  refine h_take (by assumption) 3 rfl (by kernel_rfl) (by kernel_rfl) (by kernel_rfl) rfl rfl rfl pQ rV ?_
  refine h_take (by assumption) 4 rfl (by kernel_rfl) (by kernel_rfl) (by kernel_rfl) rfl rfl rfl pQ rV ?_
  refine h_take (by assumption) 5 rfl (by kernel_rfl) (by kernel_rfl) (by kernel_rfl) rfl rfl rfl pQ rV ?_
  refine h_take (by assumption) 6 rfl (by kernel_rfl) (by kernel_rfl) (by kernel_rfl) rfl rfl rfl pQ rV ?_
  refine h_take (by assumption) 7 rfl (by kernel_rfl) (by kernel_rfl) (by kernel_rfl) rfl rfl rfl pQ rV ?_
  refine h_take (by assumption) 8 rfl (by kernel_rfl) (by kernel_rfl) (by kernel_rfl) rfl rfl rfl pQ rV ?_
  refine h_take (by assumption) 9 rfl (by kernel_rfl) (by kernel_rfl) (by kernel_rfl) rfl rfl rfl pQ rV ?_
  refine h_take (by assumption) 10 rfl (by kernel_rfl) (by kernel_rfl) (by kernel_rfl) rfl rfl rfl pQ rV ?_
  refine h_take (by assumption) 11 rfl (by kernel_rfl) (by kernel_rfl) (by kernel_rfl) rfl rfl rfl pQ (RunS.v (r_nilI rfl)) ?_
  refine h_take (by assumption) 12 rfl (by kernel_rfl) (by kernel_rfl) (by kernel_rfl) rfl rfl rfl pQ rV ?_
  refine h_one 13 (by kernel_rfl) rfl rfl ?_
  refine s_invokeM rfl rfl rfl (MCt.of h) [1] rfl ?_ ?_
  · intro v B hR
    obtain ⟨x, y, rfl⟩ := hR2 v B hR
    have hE2 : Ent (B ++ blk ib (cl (icells (.iface rt u) off) 89) :: F) [blk ib (cl (icells (.iface rt u) off) 89)] := Ent.trans (Ent.mid _ _) (Ent.left [_] _)
    refine h_then hE2 ?_
    refine h_take (by assumption) 14 rfl (by kernel_rfl) (by kernel_rfl) (by kernel_rfl) rfl rfl rfl pQ rV ?_
    refine h_take (by assumption) 15 rfl (by kernel_rfl) (by kernel_rfl) (by kernel_rfl) rfl rfl rfl pQ rV ?_
    refine h_take (by assumption) 16 rfl (by kernel_rfl) (by kernel_rfl) (by kernel_rfl) rfl rfl rfl pQ rV ?_
    refine h_take (by assumption) 17 rfl (by kernel_rfl) (by kernel_rfl) (by kernel_rfl) rfl rfl rfl pQ rV ?_
    refine h_done (by kernel_rfl) ?_
    repeat (first | refine wZ ?_ | intro b)
    exact e_ret2 _ rfl rfl rfl ⟨B, hR, rfl⟩ (Ent.mid _ _)
  · intro c B hR
    repeat (first | refine wZ ?_ | intro b)
    exact e_pan _ ⟨B, hR, rfl⟩ (Ent.mid _ _)

theorem IReadAt_n {a : Int} {sl : Value} (ha : a < 0) (h : MCt Tryz.prog v' "Name" [] [A] (fun v B => v = .string nameS ∧ B = [A]) nev) : Ct Tryz.prog 91 #[.pointer (some ⟨ib, 0, none⟩), sl, .int .i64 a] [iP ib v' off, A] (fun v B => ∃ b, v = .tuple #[.int .i64 0, invV b] ∧ B = [iP ib v' off, A]) nev := by
  refine Ct.of Tryz.func91 rfl Tryz.ntmps91 rfl fun m F => ?_
  unfold iP
  repeat (first | refine wZ ?_ | intro b)
  rw [decide_eq_true ha]
  repeat (first | refine wZ ?_ | intro b)
  refine l_plain rfl (s_invokeM rfl rfl rfl h [1] rfl ?_ (fun _ _ h => h.elim))
  rintro _ _ ⟨rfl, rfl⟩
  refine l_plain rfl ?_
  apply s_val rfl rfl
  · exact RunS.v (r_strAdd rfl rfl (Nat.le_of_ble_eq_true rfl))
  generalize nameS ++ _ = str
  repeat (first | refine wZ ?_ | intro b)
  refine l_plain rfl ?_
  apply s_val rfl rfl
  · exact RunS.v (r_build (cells := #[.string str, .iface 2 (.int .i64 a)]) rfl (by kernel_rfl))
  repeat (first | refine wZ ?_ | intro b)
  exact e_ret2 _ rfl rfl rfl ⟨b, rfl, rfl⟩ (arr_ent 1 [2, 1] _)

theorem IWriteAt_c {a : Nat} {sl : Value} (ha : off + a ≤ 9223372036854775807) (hR2 : ∀ v B, R v B → ∃ x y, v = .tuple #[x, y]) (h : MCt Tryz.prog v' "WriteAt" [sl, .int .i64 ((off + a : Nat) : Int)] [A] R E) : Ct Tryz.prog 96 #[.pointer (some ⟨ib, 0, none⟩), sl, .int .i64 (a : Nat)] [iP ib v' off, A] (wR (iP ib v' off) R) (wE (iP ib v' off) E) := by
  obtain ⟨rt, u, f, rfl, hm1, hm2, h⟩ := h
  refine Ct.of Tryz.func96 rfl Tryz.ntmps96 rfl fun m F => ?_
  unfold iP
  repeat (first | refine wY ?_ | intro b)
  rw [decide_eq_false (by omega : ¬ ((a : Nat) : Int) < 0)]
  repeat (first | refine wY ?_ | intro b)
  have hE : Ent ([blk ib (cl (icells (.iface rt u) off) 89), A] ++ F) [blk ib (cl (icells (.iface rt u) off) 89)] := Ent.left [_] _
  refine h_any [blk ib (cl (icells (.iface rt u) off) 89)] 18 rfl ?_
  refine h_take (by assumption) 0 rfl (by kernel_rfl) (by kernel_rfl) (by kernel_rfl) rfl rfl rfl pQ rV ?_
  refine h_take (by assumption) 1 rfl (by kernel_rfl) (by kernel_rfl) (by kernel_rfl) rfl rfl rfl pQ rV ?_
  refine h_take (by assumption) 2 rfl (by kernel_rfl) (by kernel_rfl) (by kernel_rfl) rfl rfl rfl pQ rV ?_
  refine h_take (by assumption) 3 rfl (by kernel_rfl) (by kernel_rfl) (by kernel_rfl) rfl rfl rfl pQ rV ?_
  refine h_take (by assumption) 4 rfl (by kernel_rfl) (by kernel_rfl) (by kernel_rfl) rfl rfl rfl pQ rV ?_
  refine h_take (by assumption) 5 rfl (by kernel_rfl) (by kernel_rfl) (by kernel_rfl) rfl rfl rfl pQ rV ?_
  refine h_take (by assumption) 6 rfl (by kernel_rfl) (by kernel_rfl) (by kernel_rfl) rfl rfl rfl pQ rV ?_
  refine h_take (by assumption) 7 rfl (by kernel_rfl) (by kernel_rfl) (by kernel_rfl) rfl rfl rfl pQ rV ?_
  refine h_take (by assumption) 8 rfl (by kernel_rfl) (by kernel_rfl) (by kernel_rfl) rfl rfl rfl pQ rV ?_
  refine h_take (by assumption) 9 rfl (by kernel_rfl) (by kernel_rfl) (by kernel_rfl) rfl rfl rfl pQ rV ?_
  refine h_take (by assumption) 10 rfl (by kernel_rfl) (by kernel_rfl) (by kernel_rfl) rfl rfl rfl pQ rV ?_
  refine h_take (by assumption) 11 rfl (by kernel_rfl) (by kernel_rfl) (by kernel_rfl) rfl rfl rfl pQ (RunS.v (r_nilI rfl)) ?_
  refine h_take (by assumption) 12 rfl (by kernel_rfl) (by kernel_rfl) (by kernel_rfl) rfl rfl rfl pQ rV ?_
  refine h_one 13 (by kernel_rfl) rfl rfl ?_
  refine s_invokeM rfl rfl rfl (MCt.of h) [1] rfl ?_ ?_
  · intro v B hR
    obtain ⟨x, y, rfl⟩ := hR2 v B hR
    have hE2 : Ent (B ++ blk ib (cl (icells (.iface rt u) off) 89) :: F) [blk ib (cl (icells (.iface rt u) off) 89)] := Ent.trans (Ent.mid _ _) (Ent.left [_] _)
    refine h_then hE2 ?_
    refine h_take (by assumption) 14 rfl (by kernel_rfl) (by kernel_rfl) (by kernel_rfl) rfl rfl rfl pQ rV ?_
    refine h_take (by assumption) 15 rfl (by kernel_rfl) (by kernel_rfl) (by kernel_rfl) rfl rfl rfl pQ rV ?_
    refine h_take (by assumption) 16 rfl (by kernel_rfl) (by kernel_rfl) (by kernel_rfl) rfl rfl rfl pQ rV ?_
    refine h_take (by assumption) 17 rfl (by kernel_rfl) (by kernel_rfl) (by kernel_rfl) rfl rfl rfl pQ rV ?_
    refine h_done (by kernel_rfl) ?_
    repeat (first | refine wZ ?_ | intro b)
    exact e_ret2 _ rfl rfl rfl ⟨B, hR, rfl⟩ (Ent.mid _ _)
  · intro c B hR
    repeat (first | refine wZ ?_ | intro b)
    exact e_pan _ ⟨B, hR, rfl⟩ (Ent.mid _ _)

theorem IWriteAt_n {a : Int} {sl : Value} (ha : a < 0) (h : MCt Tryz.prog v' "Name" [] [A] (fun v B => v = .string nameS ∧ B = [A]) nev) : Ct Tryz.prog 96 #[.pointer (some ⟨ib, 0, none⟩), sl, .int .i64 a] [iP ib v' off, A] (fun v B => ∃ b, v = .tuple #[.int .i64 0, invV b] ∧ B = [iP ib v' off, A]) nev := by
  refine Ct.of Tryz.func96 rfl Tryz.ntmps96 rfl fun m F => ?_
  unfold iP
  repeat (first | refine wZ ?_ | intro b)
  rw [decide_eq_true ha]
  repeat (first | refine wZ ?_ | intro b)
  refine l_plain rfl (s_invokeM rfl rfl rfl h [1] rfl ?_ (fun _ _ h => h.elim))
  rintro _ _ ⟨rfl, rfl⟩
  refine l_plain rfl ?_
  apply s_val rfl rfl
  · exact RunS.v (r_strAdd rfl rfl (Nat.le_of_ble_eq_true rfl))
  generalize nameS ++ _ = str
  repeat (first | refine wZ ?_ | intro b)
  refine l_plain rfl ?_
  apply s_val rfl rfl
  · exact RunS.v (r_build (cells := #[.string str, .iface 2 (.int .i64 a)]) rfl (by kernel_rfl))
  repeat (first | refine wZ ?_ | intro b)
  exact e_ret2 _ rfl rfl rfl ⟨b, rfl, rfl⟩ (arr_ent 1 [2, 1] _)

theorem ISize_c {q : Int} (hq : -1000000000000000 ≤ q ∧ q ≤ 1000000000000000) (hoff : off ≤ 1000000000000) (h : MCt Tryz.prog v' "Size" [] [A] (fun v B => v = .tuple #[.int .i64 q, .nilIface] ∧ B = [A]) E) : Ct Tryz.prog 93 #[.pointer (some ⟨ib, 0, none⟩)] [iP ib v' off, A] (fun v B => v = .tuple #[.int .i64 (max (q - off) 0), .nilIface] ∧ B = [iP ib v' off, A]) (wE (iP ib v' off) E) := by
  refine Ct.of Tryz.func93 rfl Tryz.ntmps93 rfl fun m F => ?_
  unfold iP
  repeat (first | refine wZ ?_ | intro b)
  refine l_plain rfl (s_invokeM rfl rfl rfl h [1] rfl ?_ ?_)
  · rintro _ _ ⟨rfl, rfl⟩
    repeat (first | refine wZ ?_ | intro b)
    refine l_plain rfl (s_call rfl rfl (zzMaxInt64_c _ _) [] rfl ?_ (fun _ _ h => h.elim))
    rintro _ _ ⟨rfl, rfl⟩
    repeat (first | refine wZ ?_ | intro b)
    exact e_ret2 _ rfl rfl rfl ⟨rfl, rfl⟩ (arr_ent 0 [1, 0] _)
  · intro c B hR
    repeat (first | refine wZ ?_ | intro b)
    exact e_pan _ ⟨B, hR, rfl⟩ (Ent.mid _ _)

end
end Go.Proofs.YtfebpbflpdppiaaGreatDoor
namespace Go.Proofs.YtfebpbflpdppiaaGreatDoor
open Go Go.Sl
set_option maxRecDepth 100000
def rcells (bp : Option Addr) (ck v' : Value) (tl : Int) (cld : Bool) : List Value :=
  [.int .i32 0, .int .u32 0, .int .u32 0, .int .u32 0, .int .i32 0, .int .i32 0, .int .i32 0, .int .u32 0, .int .u32 0, .int .u32 0, .int .i32 0, .int .i32 0,
   .pointer bp, ck, v', v', .nilFunc, .int .i64 tl, .bool cld, .bool false]
def rP (rb : Nat) (bp : Option Addr) (ck v' : Value) (tl : Int) (cld : Bool) : HP := blk rb (cl (rcells bp ck v' tl cld) 110)
attribute [local irreducible] wpList Code.wp Exit.then Exit.inBlock bodyPost RunS RunV G St Ct Sat Ent At Rd GQ QL wpAny wpOp wpQuiet slP Sl.ex sep
attribute [local irreducible] zf memf zpgs zpg pgl rng ov cutC zc mapO rdd
section
variable {rb : Nat} {bp : Option Addr} {ck v' : Value} {cld : Bool} {A : HP} {R : Value → List HP → Prop}

theorem RWriteAt_0 (v1 v2 : Value) (h : MCt Tryz.prog v' "Name" [] [A] (fun v B => v = .string nameS ∧ B = [A]) nev) : Ct Tryz.prog 108 #[.pointer (some ⟨rb, 0, none⟩), v1, v2] [rP rb bp ck v' 0 cld, A] (fun v B => ∃ b, v = .tuple #[.int .i64 0, permV b] ∧ B = [rP rb bp ck v' 0 cld, A]) nev := by
  refine Ct.ofD Tryz.func108 rfl Tryz.ntmps108 rfl fun m F => ?_
  unfold rP
  repeat (first | refine wZ ?_ | intro b)
  refine l_plain rfl (s_call rfl rfl (wlock_ct rwWLib rfl rfl rfl rfl) [0] rfl ?_ (fun _ _ h => h.elim))
  rintro _ _ ⟨rfl, rfl⟩
  repeat (first | refine wZ ?_ | intro b)
  refine l_plain rfl (s_defer rfl rfl ?_)
  repeat (first | refine wZ ?_ | intro b)
  refine l_plain rfl (s_invokeM rfl rfl rfl h [1] rfl ?_ (fun _ _ h => h.elim))
  rintro _ _ ⟨rfl, rfl⟩
  refine l_plain rfl ?_
  apply s_val rfl rfl
  · exact RunS.v (r_strAdd rfl rfl (Nat.le_of_ble_eq_true rfl))
  generalize nameS ++ _ = str
  refine l_plain rfl ?_
  apply s_val rfl rfl
  · exact RunS.v (r_build (cells := #[.string str]) rfl (by kernel_rfl))
  repeat (first | refine wZ ?_ | intro b)
  refine gl_ret (gl_def [2] rfl (by simp) rfl rfl (wunlock_dct rwWLib rfl rfl rfl rfl) ?_)
  exact gl_r2 _ rfl rfl rfl ⟨b, rfl, rfl⟩ (arr_ent 1 [0, 1] _)

theorem RTruncate_0 (v1 : Value) (h : MCt Tryz.prog v' "Name" [] [A] (fun v B => v = .string nameS ∧ B = [A]) nev) : Ct Tryz.prog 107 #[.pointer (some ⟨rb, 0, none⟩), v1] [rP rb bp ck v' 0 cld, A] (fun v B => ∃ b, v = permV b ∧ B = [rP rb bp ck v' 0 cld, A]) nev := by
  refine Ct.ofD Tryz.func107 rfl Tryz.ntmps107 rfl fun m F => ?_
  unfold rP
  repeat (first | refine wZ ?_ | intro b)
  refine l_plain rfl (s_call rfl rfl (wlock_ct rwWLib rfl rfl rfl rfl) [0] rfl ?_ (fun _ _ h => h.elim))
  rintro _ _ ⟨rfl, rfl⟩
  repeat (first | refine wZ ?_ | intro b)
  refine l_plain rfl (s_defer rfl rfl ?_)
  repeat (first | refine wZ ?_ | intro b)
  refine l_plain rfl (s_invokeM rfl rfl rfl h [1] rfl ?_ (fun _ _ h => h.elim))
  rintro _ _ ⟨rfl, rfl⟩
  refine l_plain rfl ?_
  apply s_val rfl rfl
  · exact RunS.v (r_strAdd rfl rfl (Nat.le_of_ble_eq_true rfl))
  generalize nameS ++ _ = str
  refine l_plain rfl ?_
  apply s_val rfl rfl
  · exact RunS.v (r_build (cells := #[.string str]) rfl (by kernel_rfl))
  repeat (first | refine wZ ?_ | intro b)
  refine gl_ret (gl_def [2] rfl (by simp) rfl rfl (wunlock_dct rwWLib rfl rfl rfl rfl) ?_)
  exact gl_r1 _ rfl rfl ⟨b, rfl, rfl⟩ (arr_ent 1 [0, 1] _)

theorem RPunchHole_0 (v1 v2 : Value) (h : MCt Tryz.prog v' "Name" [] [A] (fun v B => v = .string nameS ∧ B = [A]) nev) : Ct Tryz.prog 102 #[.pointer (some ⟨rb, 0, none⟩), v1, v2] [rP rb bp ck v' 0 cld, A] (fun v B => ∃ b, v = permV b ∧ B = [rP rb bp ck v' 0 cld, A]) nev := by
  refine Ct.ofD Tryz.func102 rfl Tryz.ntmps102 rfl fun m F => ?_
  unfold rP
  repeat (first | refine wZ ?_ | intro b)
  refine l_plain rfl (s_call rfl rfl (wlock_ct rwWLib rfl rfl rfl rfl) [0] rfl ?_ (fun _ _ h => h.elim))
  rintro _ _ ⟨rfl, rfl⟩
  repeat (first | refine wZ ?_ | intro b)
  refine l_plain rfl (s_defer rfl rfl ?_)
  repeat (first | refine wZ ?_ | intro b)
  refine l_plain rfl (s_invokeM rfl rfl rfl h [1] rfl ?_ (fun _ _ h => h.elim))
  rintro _ _ ⟨rfl, rfl⟩
  refine l_plain rfl ?_
  apply s_val rfl rfl
  · exact RunS.v (r_strAdd rfl rfl (Nat.le_of_ble_eq_true rfl))
  generalize nameS ++ _ = str
  refine l_plain rfl ?_
  apply s_val rfl rfl
  · exact RunS.v (r_build (cells := #[.string str]) rfl (by kernel_rfl))
  repeat (first | refine wZ ?_ | intro b)
  refine gl_ret (gl_def [2] rfl (by simp) rfl rfl (wunlock_dct rwWLib rfl rfl rfl rfl) ?_)
  exact gl_r1 _ rfl rfl ⟨b, rfl, rfl⟩ (arr_ent 1 [0, 1] _)

theorem RSync_c {tl : Int} (h : MCt Tryz.prog v' "Sync" [] [A] R nev) : Ct Tryz.prog 106 #[.pointer (some ⟨rb, 0, none⟩)] [rP rb bp ck v' tl cld, A] (wR (rP rb bp ck v' tl cld) R) nev := by
  refine Ct.ofD Tryz.func106 rfl Tryz.ntmps106 rfl fun m F => ?_
  unfold rP
  repeat (first | refine wZ ?_ | intro b)
  refine l_plain rfl (s_call rfl rfl (wlock_ct rwWLib rfl rfl rfl rfl) [0] rfl ?_ (fun _ _ h => h.elim))
  rintro _ _ ⟨rfl, rfl⟩
  repeat (first | refine wZ ?_ | intro b)
  refine l_plain rfl (s_defer rfl rfl ?_)
  repeat (first | refine wZ ?_ | intro b)
  refine l_plain rfl (s_invokeM rfl rfl rfl h [1] rfl ?_ (fun _ _ h => h.elim))
  intro v B hR
  refine G.ent (Ent.mid _ _) ?_
  repeat (first | refine wZ ?_ | intro b)
  refine gl_ret (gl_def [0] rfl (by simp) rfl rfl (wunlock_dct rwWLib rfl rfl rfl rfl) ?_)
  exact gl_r1 _ rfl rfl ⟨B, hR, rfl⟩ (Ent.refl _)

theorem RName_c {tl : Int} (h : MCt Tryz.prog v' "Name" [] [A] R nev) : Ct Tryz.prog 101 #[.pointer (some ⟨rb, 0, none⟩)] [rP rb bp ck v' tl cld, A] (wR (rP rb bp ck v' tl cld) R) nev := by
  refine Ct.ofD Tryz.func101 rfl Tryz.ntmps101 rfl fun m F => ?_
  unfold rP
  repeat (first | refine wZ ?_ | intro b)
  refine l_plain rfl (s_call rfl rfl (rlock_ct rwRLib rfl rfl rfl) [0] rfl ?_ (fun _ _ h => h.elim))
  rintro _ _ ⟨rfl, rfl⟩
  repeat (first | refine wZ ?_ | intro b)
  refine l_plain rfl (s_defer rfl rfl ?_)
  repeat (first | refine wZ ?_ | intro b)
  refine l_plain rfl (s_invokeM rfl rfl rfl h [1] rfl ?_ (fun _ _ h => h.elim))
  intro v B hR
  refine G.ent (Ent.mid _ _) ?_
  repeat (first | refine wZ ?_ | intro b)
  refine gl_ret (gl_def [0] rfl (by simp) rfl rfl (runlock_dct rwRLib rfl rfl rfl) ?_)
  exact gl_r1 _ rfl rfl ⟨B, hR, rfl⟩ (Ent.refl _)
theorem Rsize_0 (hR2 : ∀ v B, R v B → ∃ x y, v = .tuple #[x, y]) {ce : List Value} (h1 : ce[14]? = some v') (h2 : ce[17]? = some (.int .i64 0)) (h : MCt Tryz.prog v' "Size" [] [A] R nev) : Ct Tryz.prog 113 #[.pointer (some ⟨rb, 0, none⟩)] [blk rb (cl ce 110), A] (wR (blk rb (cl ce 110)) R) nev := by
  refine Ct.of Tryz.func113 rfl Tryz.ntmps113 rfl fun m F => ?_
  repeat (first | refine wZ ?_ | intro b)
  refine l_plain rfl ?_
  apply s_val rfl rfl
  · exact r_load rfl rfl (rd_blk 0 rfl h2)
  repeat (first | refine wZ ?_ | intro b)
  refine l_plain rfl ?_
  apply s_val rfl rfl
  · exact r_load rfl rfl (rd_blk 0 rfl h1)
  repeat (first | refine wZ ?_ | intro b)
  refine l_plain rfl (s_invokeM rfl rfl rfl h [1] rfl ?_ (fun _ _ h => h.elim))
  intro v B hR
  obtain ⟨x, y, rfl⟩ := hR2 v B hR
  repeat (first | refine wZ ?_ | intro b)
  exact e_ret2 _ rfl rfl rfl ⟨B, hR, rfl⟩ (Ent.mid _ _)
theorem RSize_0 (hR2 : ∀ v B, R v B → ∃ x y, v = .tuple #[x, y]) (h : MCt Tryz.prog v' "Size" [] [A] R nev) : Ct Tryz.prog 105 #[.pointer (some ⟨rb, 0, none⟩)] [rP rb bp ck v' 0 cld, A] (wR (rP rb bp ck v' 0 cld) R) nev := by
  refine Ct.ofD Tryz.func105 rfl Tryz.ntmps105 rfl fun m F => ?_
  unfold rP
  repeat (first | refine wZ ?_ | intro b)
  refine l_plain rfl (s_call rfl rfl (wlock_ct rwWLib rfl rfl rfl rfl) [0] rfl ?_ (fun _ _ h => h.elim))
  rintro _ _ ⟨rfl, rfl⟩
  repeat (first | refine wZ ?_ | intro b)
  refine l_plain rfl (s_defer rfl rfl ?_)
  repeat (first | refine wZ ?_ | intro b)
  refine l_plain rfl (s_call rfl rfl (Rsize_0 hR2 rfl rfl h) [0, 0] rfl ?_ (fun _ _ h => h.elim))
  rintro v _ ⟨B, hR, rfl⟩
  obtain ⟨x, y, rfl⟩ := hR2 v B hR
  repeat (first | refine wZ ?_ | intro b)
  refine gl_ret (gl_def [0] rfl (by simp) rfl rfl (wunlock_dct rwWLib rfl rfl rfl rfl) ?_)
  exact gl_r2 _ rfl rfl rfl ⟨B, hR, rfl⟩ (Ent.refl _)

theorem RReadAt_0 {v1 v2 : Value} (hR2 : ∀ v B, R v B → ∃ x y, v = .tuple #[x, y]) (h : MCt Tryz.prog v' "ReadAt" [v1, v2] [A] R nev) : Ct Tryz.prog 103 #[.pointer (some ⟨rb, 0, none⟩), v1, v2] [rP rb bp ck v' 0 cld, A] (wR (rP rb bp ck v' 0 cld) R) nev := by
  refine Ct.ofD Tryz.func103 rfl Tryz.ntmps103 rfl fun m F => ?_
  unfold rP
  repeat (first | refine wZ ?_ | intro b)
  refine l_plain rfl (s_call rfl rfl (rlock_ct rwRLib rfl rfl rfl) [0] rfl ?_ (fun _ _ h => h.elim))
  rintro _ _ ⟨rfl, rfl⟩
  repeat (first | refine wZ ?_ | intro b)
  refine l_plain rfl (s_defer rfl rfl ?_)
  repeat (first | refine wZ ?_ | intro b)
  refine l_plain rfl (s_call rfl rfl (rlock_ct rwRLib rfl rfl rfl) [0] rfl ?_ (fun _ _ h => h.elim))
  rintro _ _ ⟨rfl, rfl⟩
  repeat (first | refine wZ ?_ | intro b)
  refine l_plain rfl (s_defer rfl rfl ?_)
  repeat (first | refine wZ ?_ | intro b)
  refine l_plain rfl (s_invokeM rfl rfl rfl h [1] rfl ?_ (fun _ _ h => h.elim))
  intro v B hR
  obtain ⟨x, y, rfl⟩ := hR2 v B hR
  refine G.ent (Ent.mid _ _) ?_
  repeat (first | refine wZ ?_ | intro b)
  refine gl_ret (gl_def [0] rfl (by simp) rfl rfl (runlock_dct rwRLib rfl rfl rfl) ?_)
  refine gl_def [0] rfl (by simp) rfl rfl (runlock_dct rwRLib rfl rfl rfl) ?_
  exact gl_r2 _ rfl rfl rfl ⟨B, hR, rfl⟩ (Ent.refl _)

end
end Go.Proofs.YtfebpbflpdppiaaGreatDoor
namespace Go.Proofs.YtfebpbflpdppiaaGreatDoor
open Go Go.Sl
set_option maxRecDepth 100000
structure BP where
  z : ZP
  db : Nat
  pd : Value
  pv : Option Addr
  nx : Option Addr
  dirty : Bool
def bpc (p : BP) : List Value := [.pointer p.pv, .pointer p.nx, p.pd, .slice (some ⟨p.db, 0, none⟩) 4096 4096, .bool p.dirty]
def bpg (c : Cn) (p : BP) : HP := sep [blk p.z.blk (cl (bpc p) 194), blk p.db (cl (u8s (pgl c p.z.idx)) 5)]
def bpgs (c : Cn) (l : List BP) : HP := sep (l.map (bpg c))
def bme (l : List BP) : List ME := (l.map BP.z).map ZP.me
structure BOK (cb c : Cn) (s : Nat) (d : Nat → Bool) (l : List BP) (k : Nat) : Prop where
  nd : (l.map (·.z.idx)).Nodup
  nb : (l.map (·.z.born)).Nodup
  lt : ∀ p ∈ l, p.z.born < k
  bd : ∀ p ∈ l, p.z.idx * 4096 < s
  dd : ∀ p ∈ l, p.dirty = d p.z.idx
  dn : ∀ j, d j = true → ∃ p ∈ l, p.z.idx = j
  cb : ∀ i, d (i / 4096) = false → c i = cb i
  pn : ∀ p ∈ l, p.pv = none ∧ p.nx = none
def bcells (pv : Value) (mb s : Nat) : List Value := [pv, .map (some mb), .int .i64 (s : Nat)]
/-- a level of a transaction -/
def bf (bb : Nat) (pv : Value) (cb c : Cn) (s : Nat) (d : Nat → Bool) : HP := ex fun x : Nat × List BP × Nat => also (BOK cb c s d x.2.1 x.2.2) (sep [blk bb (cl (bcells pv x.1 s) 180), blk x.1 (mapO (bme x.2.1) x.2.2), bpgs c x.2.1])
section
variable {n : Nat} {ds : List Deferred} {σ : Env} {m : Amb} {L R : List HP}
theorem bf_open {bb s : Nat} {pv : Value} {cb c : Cn} {d : Nat → Bool} {Φ : Act → World → Prop} (h : ∀ mb l k, BOK cb c s d l k → G n ds σ m (blk bb (cl (bcells pv mb s) 180) :: blk mb (mapO (bme l) k) :: bpgs c l :: L) Φ) : G n ds σ m (bf bb pv cb c s d :: L) Φ :=
  G.exE fun x => G.alsoE fun hp => G.ent (sep_open _ _) (h x.1 x.2.1 x.2.2 hp)
theorem bf_shut {bb s mb k : Nat} {pv : Value} {cb c : Cn} {d : Nat → Bool} {l : List BP} (h : BOK cb c s d l k) : Ent (blk bb (cl (bcells pv mb s) 180) :: blk mb (mapO (bme l) k) :: bpgs c l :: L) (bf bb pv cb c s d :: L) :=
  (sep_shut [_, _, _] L).trans ((also_shut h _ L).trans (ex_shut (fun x : Nat × List BP × Nat => also (BOK cb c s d x.2.1 x.2.2) (sep [blk bb (cl (bcells pv x.1 s) 180), blk x.1 (mapO (bme x.2.1) x.2.2), bpgs c x.2.1])) (mb, l, k) L))
theorem bpgs_take (c : Cn) (l1 l2 : List BP) (p : BP) : Ent (bpgs c (l1 ++ p :: l2) :: L) (blk p.z.blk (cl (bpc p) 194) :: blk p.db (cl (u8s (pgl c p.z.idx)) 5) :: bpgs c (l1 ++ l2) :: L) := by
  have h : Ent (bpgs c (l1 ++ p :: l2) :: L) (bpg c p :: bpgs c (l1 ++ l2) :: L) := by
    unfold bpgs
    refine (sep_open _ _).trans (Ent.trans (Ent.perm ?_) (Ent.cons (sep_shut _ _)))
    simp only [List.map_append, List.map_cons, List.append_assoc, List.cons_append]
    exact List.perm_middle
  exact h.trans (sep_open _ _)
theorem bpgs_put (c : Cn) (l1 l2 : List BP) (p : BP) : Ent (blk p.z.blk (cl (bpc p) 194) :: blk p.db (cl (u8s (pgl c p.z.idx)) 5) :: bpgs c (l1 ++ l2) :: L) (bpgs c (l1 ++ p :: l2) :: L) := by
  have h : Ent (bpg c p :: bpgs c (l1 ++ l2) :: L) (bpgs c (l1 ++ p :: l2) :: L) := by
    unfold bpgs
    refine (Ent.cons (sep_open _ _)).trans (Ent.trans (Ent.perm ?_) (sep_shut _ _))
    simp only [List.map_append, List.map_cons, List.append_assoc, List.cons_append]
    exact List.perm_middle.symm
  exact (sep_shut [_, _] _).trans h
end
theorem bpgs_congr {c c' : Cn} {l : List BP} (h : ∀ p ∈ l, pgl c p.z.idx = pgl c' p.z.idx) : bpgs c l = bpgs c' l := by
  unfold bpgs
  rw [List.map_congr_left (g := bpg c') fun p hp => by unfold bpg; rw [h p hp]]
def bq (l : List BP) (i : Nat) : Option Addr := zq (l.map BP.z) i
theorem bq_look (l : List BP) (i j : Nat) : (match mgo (i : Nat) (bme l) j with | some p => p.2 | none => Value.pointer none) = .pointer (bq l i) := zq_look _ i j
theorem bq_none {l : List BP} {i : Nat} (h : bq l i = none) : ∀ p ∈ l, p.z.idx ≠ i := fun p hp => zq_none h p.z (List.mem_map_of_mem hp)
theorem bq_miss {l : List BP} {i : Nat} (h : bq l i = none) (j : Nat) : mgo (i : Nat) (bme l) j = none := zq_miss h j
theorem bq_some {l : List BP} {i : Nat} {a : Addr} (h : bq l i = some a) : ∃ l1 p l2, l = l1 ++ p :: l2 ∧ p.z.idx = i ∧ a = p.z.ad := by
  obtain ⟨l1, z, l2, e, hi, ha⟩ := zq_some h
  rw [List.map_eq_append_iff] at e
  obtain ⟨m1, m2, rfl, rfl, e2⟩ := e
  rw [List.map_eq_cons_iff] at e2
  obtain ⟨p, m3, rfl, rfl, rfl⟩ := e2
  exact ⟨m1, p, m3, rfl, hi, ha⟩
theorem bme_append (l1 l2 : List BP) : bme (l1 ++ l2) = bme l1 ++ bme l2 := by simp [bme]
theorem bme_mem {l : List BP} {e : ME} (h : e ∈ bme l) : ∃ p ∈ l, e = p.z.me := by
  simp only [bme, List.map_map, List.mem_map] at h
  obtain ⟨p, hp, rfl⟩ := h
  exact ⟨p, hp, rfl⟩
theorem mem_bme {l : List BP} {p : BP} (h : p ∈ l) : p.z.me ∈ bme l := List.mem_map_of_mem (List.mem_map_of_mem h)
theorem BOK.emp (cb : Cn) (s : Nat) : BOK cb cb s (fun _ => false) [] 0 := ⟨by simp, by simp, by simp, by simp, by simp, fun _ h => by simp at h, fun _ _ => rfl, by simp⟩
theorem BOK.other {cb c : Cn} {s k : Nat} {d : Nat → Bool} {l1 l2 : List BP} {p : BP} (h : BOK cb c s d (l1 ++ p :: l2) k) : ∀ q ∈ l1 ++ l2, q.z.idx ≠ p.z.idx := fun q hq e => by
  have hnd := h.nd
  rw [List.map_append, List.map_cons] at hnd
  have h2 := List.perm_middle.nodup_iff.1 hnd
  rw [List.nodup_cons] at h2
  exact h2.1 (by rw [← e, ← List.map_append]; exact List.mem_map_of_mem hq)
theorem BOK.one {cb c : Cn} {s k : Nat} {d : Nat → Bool} {l : List BP} (h : BOK cb c s d l k) {p q : BP} (hp : p ∈ l) (hq : q ∈ l) (e : p.z.idx = q.z.idx) : p = q := by
  obtain ⟨l1, l2, rfl⟩ := List.append_of_mem hp
  rcases List.mem_append.1 hq with hq' | hq'
  · exact absurd e.symm (h.other q (List.mem_append_left _ hq'))
  · rcases List.mem_cons.1 hq' with rfl | hq'
    · rfl
    · exact absurd e.symm (h.other q (List.mem_append_right _ hq'))
attribute [local irreducible] wpList Code.wp Exit.then Exit.inBlock bodyPost RunS RunV G St Ct Sat Ent At Rd GQ QL wpAny wpOp wpQuiet slP Sl.ex sep
attribute [local irreducible] zf memf bf bpgs pgl rng ov cutC zc mapO rdd bme
section
variable {glb : HP} {ea : Addr}
theorem zzIsEOF_t (hglb : Rd [glb] ⟨1, 0, none⟩ (eofV ea)) : Ct Tryz.prog 141 #[eofV ea] [glb] (fun v B => v = .bool true ∧ B = [glb]) nev := by
  refine Ct.of Tryz.func141 rfl Tryz.ntmps141 rfl fun m F => ?_
  unfold eofV at hglb ⊢
  repeat (first | refine wZ ?_ | intro b)
  refine l_plain rfl ?_
  apply s_val rfl rfl
  · exact r_load rfl rfl (Rd.at hglb 0 rfl)
  repeat (first | refine wZ ?_ | intro b)
  refine l_plain rfl ?_
  apply s_val rfl rfl
  · exact RunS.v (r_eqPP rfl rfl (by decide))
  repeat (first | refine wZ ?_ | intro b)
  exact e_ret1 _ rfl rfl ⟨rfl, rfl⟩ (Ent.refl _)
theorem zzIsEOF_f (hglb : Rd [glb] ⟨1, 0, none⟩ (eofV ea)) (b : Nat) : Ct Tryz.prog 141 #[invV b] [glb] (fun v B => v = .bool false ∧ B = [glb]) nev := by
  refine Ct.of Tryz.func141 rfl Tryz.ntmps141 rfl fun m F => ?_
  unfold eofV at hglb
  unfold invV
  repeat (first | refine wZ ?_ | intro b)
  refine l_plain rfl ?_
  apply s_val rfl rfl
  · exact r_load rfl rfl (Rd.at hglb 0 rfl)
  repeat (first | refine wZ ?_ | intro b)
  refine l_plain rfl ?_
  apply s_val rfl rfl
  · exact RunS.v (r_eqII rfl rfl rfl)
  repeat (first | refine wZ ?_ | intro b)
  exact e_ret1 _ rfl rfl ⟨rfl, rfl⟩ (Ent.refl _)
theorem zzPut_c (v0 : Value) : Ct Tryz.prog 136 #[v0] [] (fun v B => v = .tuple #[] ∧ B = []) nev := by
  refine Ct.of Tryz.func136 rfl Tryz.ntmps136 rfl fun m F => ?_
  repeat (first | refine wZ ?_ | intro b)
  exact e_nor0 _ rfl ⟨rfl, rfl⟩ (Ent.refl _)
theorem zzGet_c : Ct Tryz.prog 140 #[.int .i64 4096] [] (fun v B => ∃ xb db, v = .pointer (some ⟨xb, 0, none⟩) ∧ B = [blk xb (cl [.slice (some ⟨db, 0, none⟩) 4096 4096] 22), blk db (cl (List.replicate 4096 (.int .u8 0)) 5)]) nev := by
  refine Ct.of Tryz.func140 rfl Tryz.ntmps140 rfl fun m F => ?_
  repeat (first | refine wZ ?_ | intro b)
  refine l_plain rfl (s_mkSl (len := 4096) rfl rfl rfl (by decide) (by decide) rfl ?_)
  repeat (first | refine wZ ?_ | intro b)
  exact e_ret1 _ rfl rfl ⟨_, _, rfl, rfl⟩ (Ent.refl _)
end
end Go.Proofs.YtfebpbflpdppiaaGreatDoor
namespace Go.Proofs.YtfebpbflpdppiaaGreatDoor
open Go Go.Sl
set_option maxRecDepth 100000
def bunseen (l : List BP) (seen : Array Nat) : Nat := unseen (l.map BP.z) seen
theorem bunseen_lt {l1 l2 : List BP} {p : BP} {seen : Array Nat} (h : seen.contains p.z.born = false) : bunseen (l1 ++ p :: l2) (seen.push p.z.born) < bunseen (l1 ++ p :: l2) seen := by
  unfold bunseen
  rw [List.map_append, List.map_cons]
  exact (unseen_lt h).2
theorem bme_nil : bme [] = [] := rfl
theorem MCt.isI {P : Program} {v : Value} {name : String} {vs : List Value} {A : List HP} {RR : Value → List HP → Prop} {E : List PanicEntry → List HP → Prop} (h : MCt P v name vs A RR E) : ∃ t u, v = .iface t u := by
  obtain ⟨rt, u, f, e, _⟩ := h
  exact ⟨rt, u, e⟩
attribute [local irreducible] wpList Code.wp Exit.then Exit.inBlock bodyPost RunS RunV G St Ct Sat Ent At Rd GQ QL wpAny wpOp wpQuiet slP Sl.ex sep
attribute [local irreducible] zf memf pgl rng ov cutC zc mapO rdd bme
section
variable {bb s : Nat} {pv : Value} {cb c : Cn} {d : Nat → Bool}
theorem bSize_c : Ct Tryz.prog 116 #[.pointer (some ⟨bb, 0, none⟩)] [bf bb pv cb c s d] (fun v B => v = .tuple #[.int .i64 (s : Nat), .nilIface] ∧ B = [bf bb pv cb c s d]) nev := by
  refine Ct.of Tryz.func116 rfl Tryz.ntmps116 rfl fun m F => ?_
  refine bf_open fun mb l k hok => ?_
  repeat (first | refine wZ ?_ | intro b)
  exact e_ret2 _ rfl rfl rfl ⟨rfl, rfl⟩ (bf_shut hok)
theorem newBitFiler_c {A : HP} (h : MCt Tryz.prog pv "Size" [] [A] (fun v B => v = .tuple #[.int .i64 (s : Nat), .nilIface] ∧ B = [A]) nev) : Ct Tryz.prog 111 #[pv] [A] (fun v B => ∃ bb, v = .tuple #[.pointer (some ⟨bb, 0, none⟩), .nilIface] ∧ B = [A, bf bb pv cb cb s (fun _ => false)]) nev := by
  refine Ct.of Tryz.func111 rfl Tryz.ntmps111 rfl fun m F => ?_
  obtain ⟨pt, pw, rfl⟩ := MCt.isI h
  repeat (first | refine wZ ?_ | intro b)
  refine l_plain rfl (s_invokeM rfl rfl rfl h [0] rfl ?_ (fun _ _ h => h.elim))
  rintro _ _ ⟨rfl, rfl⟩
  repeat (first | refine wZ ?_ | intro b)
  refine l_plain rfl (s_mkMap rfl fun mb => ?_)
  repeat (first | refine wZ ?_ | intro b)
  refine l_plain rfl ?_
  apply s_val rfl rfl
  · exact RunS.v (r_build (cells := #[.iface pt pw, .map (some mb), .int .i64 (s : Nat)]) rfl (by kernel_rfl))
  repeat (first | refine wZ ?_ | intro b)
  refine e_ret2 _ rfl rfl rfl ⟨b, rfl, rfl⟩ ?_
  refine Ent.trans ?_ (Ent.cons (bf_shut (L := F) (mb := mb) (BOK.emp cb s)))
  refine Ent.trans (arr_ent 0 [2, 0, 0] _) (Ent.cons (Ent.cons ?_))
  rw [bme_nil]
  exact Ent.cons (sep_shut [] _)
end
end Go.Proofs.YtfebpbflpdppiaaGreatDoor
namespace Go.Proofs.YtfebpbflpdppiaaGreatDoor
open Go Go.Sl
set_option maxRecDepth 100000
/-- how many pages reach to a size -/
def pgn (n : Nat) : Nat := (n + 4095) / 4096
def tc (cb c : Cn) (n : Nat) : Cn := fun i => if pgn n ≤ i / 4096 then cb i else c i
def td (d : Nat → Bool) (n : Nat) : Nat → Bool := fun j => d j && decide (j < pgn n)
theorem bfind : ∀ (l : List BP) (i k : Nat), (∃ l1 p l2, l = l1 ++ p :: l2 ∧ p.z.idx = i ∧ mgo (i : Nat) (bme l) k = some (k + l1.length, .pointer (some p.z.ad))) ∨ ((∀ p ∈ l, p.z.idx ≠ i) ∧ mgo (i : Nat) (bme l) k = none)
  | [], _, _ => .inr ⟨by simp, rfl⟩
  | p :: l, i, k => by
    by_cases h : p.z.idx = i
    · refine .inl ⟨[], p, l, rfl, h, ?_⟩
      simp [bme, mgo, ZP.me, h]
    · have h1 : (((i : Nat) : Int) == ((p.z.idx : Nat) : Int)) = false := by simp; omega
      rcases bfind l i (k + 1) with ⟨l1, q, l2, rfl, hq, hm⟩ | ⟨hn, hm⟩
      · refine .inl ⟨p :: l1, q, l2, rfl, hq, ?_⟩
        have : mgo (i : Nat) (bme (p :: (l1 ++ q :: l2))) k = mgo (i : Nat) (bme (l1 ++ q :: l2)) (k + 1) := by
          simp only [bme, List.map_cons, mgo, ZP.me, h1, Bool.false_eq_true, if_false]
        rw [this, hm, List.length_cons]
        congr 2
        omega
      · refine .inr ⟨fun q hq => ?_, ?_⟩
        · rcases List.mem_cons.1 hq with rfl | hq
          · exact h
          · exact hn q hq
        · have : mgo (i : Nat) (bme (p :: l)) k = mgo (i : Nat) (bme l) (k + 1) := by
            simp only [bme, List.map_cons, mgo, ZP.me, h1, Bool.false_eq_true, if_false]
          rw [this, hm]
theorem bme_erase (l1 l2 : List BP) (p : BP) : (bme (l1 ++ p :: l2)).eraseIdx (0 + l1.length) = bme (l1 ++ l2) := by
  unfold bme
  rw [List.eraseIdx_eq_take_drop_succ]
  simp [List.map_append, List.drop_append]
theorem bok_sub {cb c c' : Cn} {s s' k : Nat} {d d' : Nat → Bool} {l l' : List BP} (h : BOK cb c s d l k) (hs : l'.Sublist l) (hb : ∀ p ∈ l', p.z.idx * 4096 < s') (hd : ∀ p ∈ l', d' p.z.idx = d p.z.idx) (hn : ∀ j, d' j = true → ∃ p ∈ l', p.z.idx = j) (hc : ∀ i, d' (i / 4096) = false → c' i = cb i) : BOK cb c' s' d' l' k where
  nd := h.nd.sublist (hs.map _)
  nb := h.nb.sublist (hs.map _)
  lt := fun p hp => h.lt p (hs.subset hp)
  bd := hb
  dd := fun p hp => by rw [hd p hp]; exact h.dd p (hs.subset hp)
  dn := hn
  cb := hc
  pn := fun p hp => h.pn p (hs.subset hp)
theorem bok_cut {cb c : Cn} {s k n : Nat} {d : Nat → Bool} {l l' : List BP} (h : BOK cb c s d l k) (hs : l'.Sublist l) (h1 : ∀ p ∈ l', p.z.idx < pgn n) (h2 : ∀ p ∈ l, p.z.idx < pgn n → p ∈ l') : BOK cb (tc cb c n) n (td d n) l' k := by
  refine bok_sub h hs (fun p hp => ?_) (fun p hp => ?_) (fun j hj => ?_) (fun i hi => ?_)
  · have := h1 p hp
    unfold pgn at this
    omega
  · unfold td
    rw [decide_eq_true (h1 p hp), Bool.and_true]
  · unfold td at hj
    simp only [Bool.and_eq_true, decide_eq_true_eq] at hj
    obtain ⟨p, hp, rfl⟩ := h.dn j hj.1
    exact ⟨p, h2 p hp hj.2, rfl⟩
  · unfold td at hi
    unfold tc
    split
    · rfl
    · rename_i hlt
      rw [decide_eq_true (by omega), Bool.and_true] at hi
      exact h.cb i hi
theorem pgl_tc {cb c : Cn} {n i : Nat} (h : i < pgn n) : pgl (tc cb c n) i = pgl c i := pgl_congr fun k hk => by
  unfold tc
  rw [if_neg (by omega)]
attribute [local irreducible] wpList Code.wp Exit.then Exit.inBlock bodyPost RunS RunV G St Ct Sat Ent At Rd GQ QL wpAny wpOp wpQuiet slP Sl.ex sep
attribute [local irreducible] zf memf pgl rng ov cutC zc mapO rdd bme
section
variable {bb s : Nat} {pv : Value} {cb c : Cn} {d : Nat → Bool}
theorem bTruncate_n {A : List HP} (v0 : Value) (off : Int) (hb : off < 0) : Ct Tryz.prog 122 #[v0, .int .i64 off] A (fun v B => ∃ b, v = invV b ∧ B = A) nev := by
  refine Ct.of Tryz.func122 rfl Tryz.ntmps122 rfl fun m F => ?_
  repeat (first | refine wZ ?_ | intro b)
  rw [decide_eq_true hb]
  repeat (first | refine wZ ?_ | intro b)
  refine l_plain rfl ?_
  apply s_val rfl rfl
  · exact RunS.v (r_build (cells := #[.string ⟨#[84, 114, 117, 110, 99, 97, 116, 101, 32, 115, 105, 122, 101]⟩, .iface 2 (.int .i64 off)]) rfl (by kernel_rfl))
  repeat (first | refine wZ ?_ | intro b)
  exact e_ret1 _ rfl rfl ⟨b, rfl, rfl⟩ Ent.drop
theorem bTruncate_c (n : Nat) (hn : n ≤ 1000000000000) (hs : s ≤ 1000000000000) : Ct Tryz.prog 122 #[.pointer (some ⟨bb, 0, none⟩), .int .i64 (n : Nat)] [bf bb pv cb c s d] (fun v B => v = .nilIface ∧ B = [bf bb pv cb (tc cb c n) n (td d n)]) nev := by
  refine Ct.of Tryz.func122 rfl Tryz.ntmps122 rfl fun m F => ?_
  refine bf_open fun mb l k hok => ?_
  repeat (first | refine wZ ?_ | intro b)
  rcases Nat.eq_zero_or_pos n with h0 | h0
  · subst h0
    rw [decide_eq_false (by omega : ¬ ((0 : Nat) : Int) < 0)]
    repeat (first | refine wZ ?_ | intro b)
    refine l_plain rfl (s_mkMap rfl fun mb2 => ?_)
    repeat (first | refine wZ ?_ | intro b)
    refine e_ret1 _ rfl rfl ⟨rfl, rfl⟩ ?_
    have hok2 : BOK cb (tc cb c 0) 0 (td d 0) [] 0 := ⟨by simp, by simp, by simp, by simp, by simp, fun j hj => by simp [td, pgn] at hj, fun i _ => by simp [tc, pgn], by simp⟩
    refine Ent.trans ?_ (bf_shut (mb := mb2) hok2)
    rw [bme_nil]
    exact (arr_ent 2 [0, 0] _).trans (Ent.cons (Ent.cons (sep_shut [] _)))
  rw [decide_eq_false (by omega : ¬ ((n : Nat) : Int) < 0)]
  repeat (first | refine wZ ?_ | intro b)
  rw [decide_eq_false (by omega : ¬ ((n : Nat) : Int) = 0)]
  repeat (first | refine wZ ?_ | intro b)
  refine c_mid (α := Unit) (fun _ => [(0, .pointer (some ⟨bb, 0, none⟩)), (1, .int .i64 (n : Nat)), (4, .nilIface), (5, .int .i64 (pgn n : Nat))]) (fun _ => blk bb (cl (bcells pv mb s) 180) :: blk mb (mapO (bme l) k) :: bpgs c l :: F) (fun _ => True) ?_ ?_
  · refine c_cond rfl (fun h => ?_) (fun h => ?_)
    · simp only [Bool.not_eq_true', decide_eq_false_iff_not] at h
      repeat (first | refine wZ ?_ | intro b)
      have e1 : n / 4096 + 1 = pgn n := by unfold pgn; omega
      rw [e1]
      exact at_intro () trivial ⟨rfl, rfl, rfl, rfl, trivial⟩ (Ent.refl _)
    · simp only [Bool.not_eq_false', decide_eq_true_eq] at h
      repeat (first | refine wZ ?_ | intro b)
      have e1 : n / 4096 = pgn n := by unfold pgn; omega
      rw [e1]
      exact at_intro () trivial ⟨rfl, rfl, rfl, rfl, trivial⟩ (Ent.refl _)
  rintro _ _
  repeat (first | refine wZ ?_ | intro b)
  refine c_mid (α := Unit) (fun _ => [(0, .pointer (some ⟨bb, 0, none⟩)), (1, .int .i64 (n : Nat)), (4, .nilIface), (5, .int .i64 (pgn n : Nat)), (6, .int .i64 (pgn s : Nat))]) (fun _ => blk bb (cl (bcells pv mb s) 180) :: blk mb (mapO (bme l) k) :: bpgs c l :: F) (fun _ => True) ?_ ?_
  · refine c_cond rfl (fun h => ?_) (fun h => ?_)
    · simp only [Bool.not_eq_true', decide_eq_false_iff_not] at h
      repeat (first | refine wZ ?_ | intro b)
      have e1 : s / 4096 + 1 = pgn s := by unfold pgn; omega
      rw [e1]
      exact at_intro () trivial ⟨rfl, rfl, rfl, rfl, rfl, trivial⟩ (Ent.refl _)
    · simp only [Bool.not_eq_false', decide_eq_true_eq] at h
      repeat (first | refine wZ ?_ | intro b)
      have e1 : s / 4096 = pgn s := by unfold pgn; omega
      rw [e1]
      exact at_intro () trivial ⟨rfl, rfl, rfl, rfl, rfl, trivial⟩ (Ent.refl _)
  rintro _ _
  repeat (first | refine wZ ?_ | intro b)
  have hps : pgn s ≤ 1000000000000 := by unfold pgn; omega
  have hpn : pgn n ≤ 1000000000000 := by unfold pgn; omega
  have hsb : ∀ p ∈ l, p.z.idx < pgn s := fun p hp => by have := hok.bd p hp; unfold pgn; omega
  refine c_loop (α := List BP × Nat) (fun y => [(0, .pointer (some ⟨bb, 0, none⟩)), (1, .int .i64 (n : Nat)), (4, .nilIface), (5, .int .i64 (y.2 : Nat)), (6, .int .i64 (pgn s : Nat))])
    (fun y => blk bb (cl (bcells pv mb s) 180) :: blk mb (mapO (bme y.1) k) :: bpgs c y.1 :: F) (fun y => (y.1.Sublist l ∧ ∀ p ∈ l, (p ∈ y.1 ↔ p.z.idx < pgn n ∨ y.2 ≤ p.z.idx)) ∧ pgn n ≤ y.2 ∧ y.2 ≤ 1000000000000) (fun y => pgn s - y.2) (l, pgn n)
    ⟨⟨List.Sublist.refl _, fun p hp => by dsimp only; constructor <;> intro _ <;> first | omega | exact hp⟩, Nat.le_refl _, hpn⟩ (by exact ⟨rfl, rfl, rfl, rfl, rfl, trivial⟩) (Ent.refl _) ?_
  rintro ⟨l', i⟩ ⟨⟨hsub, hmem⟩, hni, hi⟩
  dsimp only at hsub hmem hni hi ⊢
  repeat (first | refine wZ ?_ | intro b)
  refine c_cond rfl (fun h => ?_) (fun h => ?_)
  rotate_left
  · have h := of_decide_eq_false h
    repeat (first | refine wZ ?_ | intro b)
    refine e_ret1 _ rfl rfl ⟨rfl, rfl⟩ ?_
    have hok2 := bok_cut (n := n) hok hsub (fun p hp => by have := (hmem p (hsub.subset hp)).1 hp; have := hsb p (hsub.subset hp); omega) (fun p hp hlt => (hmem p hp).2 (.inl hlt))
    rw [bpgs_congr (c := c) (c' := tc cb c n) fun p hp => (pgl_tc (by have := (hmem p (hsub.subset hp)).1 hp; have := hsb p (hsub.subset hp); omega)).symm]
    exact bf_shut hok2
  have h := of_decide_eq_true h
  repeat (first | refine wZ ?_ | intro b)
  rcases bfind l' i 0 with ⟨l1, p, l2, rfl, hpi, hm⟩ | ⟨hn2, hm⟩
  · refine l_plain rfl ?_
    apply s_val rfl rfl
    · exact r_lookOS 1 rfl rfl rfl hm
    refine G.ent (Ent.cons (Ent.cons (bpgs_take c l1 l2 p))) ?_
    unfold bpc
    repeat (first | refine wZ ?_ | intro b)
    refine l_plain rfl (s_call rfl rfl (zzPut_c _) [] rfl ?_ (fun _ _ h => h.elim))
    rintro _ _ ⟨rfl, rfl⟩
    repeat (first | refine wZ ?_ | intro b)
    have hdel : (match mgo (i : Nat) (bme (l1 ++ p :: l2)) 0 with | some q => (bme (l1 ++ p :: l2)).eraseIdx q.1 | none => bme (l1 ++ p :: l2)) = bme (l1 ++ l2) := by
      rw [hm]
      exact bme_erase l1 l2 p
    refine l_plain rfl (s_delE 1 rfl rfl rfl hdel ?_)
    repeat (first | refine wZ ?_ | intro b)
    have hsub2 : (l1 ++ l2).Sublist (l1 ++ p :: l2) := by simp
    refine at_intro (l1 ++ l2, i + 1) ⟨⟨⟨hsub2.trans hsub, fun q hq => ?_⟩, by dsimp only; omega, by dsimp only; omega⟩, by dsimp only; omega⟩ ⟨rfl, rfl, rfl, rfl, rfl, trivial⟩ ?_
    · dsimp only
      have h1 := hmem q hq
      constructor
      · intro h2
        rcases h1.1 (hsub2.subset h2) with h3 | h3
        · exact .inl h3
        · right
          have h4 : q.z.idx ≠ p.z.idx := fun e => by
            have := (hok.nd.sublist (hsub.map (·.z.idx)))
            rw [List.map_append, List.map_cons] at this
            have h5 := List.perm_middle.nodup_iff.1 this
            rw [List.nodup_cons] at h5
            exact h5.1 (by rw [← e, ← List.map_append]; exact List.mem_map_of_mem (f := fun x : BP => x.z.idx) h2)
          omega
      · intro h2
        have h3 := h1.2 (by omega)
        rcases List.mem_append.1 h3 with h4 | h4
        · exact List.mem_append_left _ h4
        · rcases List.mem_cons.1 h4 with rfl | h4
          · omega
          · exact List.mem_append_right _ h4
    · dsimp only
      exact arr_ent 2 [1, 0, 2] _
  · refine l_plain rfl ?_
    apply s_val rfl rfl
    · exact r_lookO 1 rfl rfl rfl hm
    repeat (first | refine wZ ?_ | intro b)
    have hdel : (match mgo (i : Nat) (bme l') 0 with | some q => (bme l').eraseIdx q.1 | none => bme l') = bme l' := by
      rw [hm]
    refine l_plain rfl (s_delE 1 rfl rfl rfl hdel ?_)
    repeat (first | refine wZ ?_ | intro b)
    refine at_intro (l', i + 1) ⟨⟨⟨hsub, fun q hq => ?_⟩, by dsimp only; omega, by dsimp only; omega⟩, by dsimp only; omega⟩ ⟨rfl, rfl, rfl, rfl, rfl, trivial⟩ (by dsimp only; exact arr_ent 0 [1, 0] _)
    · dsimp only
      have h1 := hmem q hq
      constructor
      · intro h2
        have := hn2 q h2
        have := h1.1 h2
        omega
      · intro h2
        exact h1.2 (by omega)
end
end Go.Proofs.YtfebpbflpdppiaaGreatDoor
