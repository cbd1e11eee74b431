/- Walks over the methods of RollbackFiler inside a transaction, over whatever bitFiler. Printed by a program (wip/tools/genZ20.py) · Deferred calls by a walk; bitFiler's methods at a nil pointer; RollbackFiler: BeginUpdate, Rollback · RollbackFiler: BeginUpdate, Rollback, PunchHole inside a transaction · RollbackFiler: EndUpdate · RollbackFiler: EndUpdate of a level within a level · Filers beneath: a file in memory, through inner filers and rollbacks outside a transaction · RollbackFiler: Close, PunchHole inside a transaction. -/
import Derived.Test.YtfebpbflpdppiaaGreatDoorL08
namespace Go.Proofs.YtfebpbflpdppiaaGreatDoor
open Go Go.Sl
set_option maxRecDepth 100000
attribute [local irreducible] wpList Code.wp Exit.then Exit.inBlock bodyPost RunS RunV G St Ct Sat Ent At Rd GQ QL wpAny wpOp wpQuiet slP Sl.ex sep
attribute [local irreducible] zf memf pgl rng ov cutC zc mapO rdd bme
section
variable {rb : Nat} {bp : Option Addr} {ck v' : Value} {cld : Bool} {A : HP} {tl : Int} {R : Value → List HP → Prop} {E : List PanicEntry → List HP → Prop}

theorem RWriteAt_a {v1 v2 : Value} (hR2 : ∀ v B, R v B → ∃ x y, v = .tuple #[x, y]) (h0 : tl ≠ 0) (hS : ∀ c B, E c B → settle (.panicking c) = .panicking c) (h : Ct Tryz.prog 123 #[.pointer bp, v1, v2] [A] R E) : Ct Tryz.prog 108 #[.pointer (some ⟨rb, 0, none⟩), v1, v2] [rP rb bp ck v' tl cld, A] (wR (rP rb bp ck v' tl cld) R) (wE (rP rb bp ck v' tl cld) E) := by
  refine Ct.ofD Tryz.func108 rfl Tryz.ntmps108 rfl fun m F => ?_
  unfold rP
  repeat (first | refine wZ ?_ | intro b)
  refine l_plain rfl (s_call rfl rfl (wlock_ct rwWLib rfl rfl rfl rfl) [0] rfl ?_ (fun _ _ h => h.elim))
  rintro _ _ ⟨rfl, rfl⟩
  repeat (first | refine wZ ?_ | intro b)
  refine l_plain rfl (s_defer rfl rfl ?_)
  repeat (first | refine wZ ?_ | intro b)
  rw [decide_eq_false h0]
  repeat (first | refine wZ ?_ | intro b)
  refine l_plain rfl (s_call rfl rfl h [1] rfl ?_ ?_)
  · intro v B hR
    obtain ⟨x, y, rfl⟩ := hR2 v B hR
    refine G.ent (Ent.mid _ _) ?_
    repeat (first | refine wZ ?_ | intro b)
    refine gl_ret (gl_def [0] rfl (by simp) rfl rfl (wunlock_dct rwWLib rfl rfl rfl rfl) ?_)
    exact gl_r2 _ rfl rfl rfl ⟨B, hR, rfl⟩ (Ent.refl _)
  · intro c B hE
    refine G.ent (Ent.mid _ _) ?_
    repeat (first | refine wZ ?_ | intro b)
    refine gl_pan (gl_def [0] rfl (by simp) (hS _ _ hE) rfl (wunlock_dct rwWLib rfl rfl rfl rfl) ?_)
    exact gl_p _ ⟨B, hE, rfl⟩ (Ent.refl _)

theorem RTruncate_a {v1 : Value} (h0 : tl ≠ 0) (hS : ∀ c B, E c B → settle (.panicking c) = .panicking c) (h : Ct Tryz.prog 122 #[.pointer bp, v1] [A] R E) : Ct Tryz.prog 107 #[.pointer (some ⟨rb, 0, none⟩), v1] [rP rb bp ck v' tl cld, A] (wR (rP rb bp ck v' tl cld) R) (wE (rP rb bp ck v' tl cld) E) := by
  refine Ct.ofD Tryz.func107 rfl Tryz.ntmps107 rfl fun m F => ?_
  unfold rP
  repeat (first | refine wZ ?_ | intro b)
  refine l_plain rfl (s_call rfl rfl (wlock_ct rwWLib rfl rfl rfl rfl) [0] rfl ?_ (fun _ _ h => h.elim))
  rintro _ _ ⟨rfl, rfl⟩
  repeat (first | refine wZ ?_ | intro b)
  refine l_plain rfl (s_defer rfl rfl ?_)
  repeat (first | refine wZ ?_ | intro b)
  rw [decide_eq_false h0]
  repeat (first | refine wZ ?_ | intro b)
  refine l_plain rfl (s_call rfl rfl h [1] rfl ?_ ?_)
  · intro v B hR
    refine G.ent (Ent.mid _ _) ?_
    repeat (first | refine wZ ?_ | intro b)
    refine gl_ret (gl_def [0] rfl (by simp) rfl rfl (wunlock_dct rwWLib rfl rfl rfl rfl) ?_)
    exact gl_r1 _ rfl rfl ⟨B, hR, rfl⟩ (Ent.refl _)
  · intro c B hE
    refine G.ent (Ent.mid _ _) ?_
    repeat (first | refine wZ ?_ | intro b)
    refine gl_pan (gl_def [0] rfl (by simp) (hS _ _ hE) rfl (wunlock_dct rwWLib rfl rfl rfl rfl) ?_)
    exact gl_p _ ⟨B, hE, rfl⟩ (Ent.refl _)

theorem Rsize_a (hR2 : ∀ v B, R v B → ∃ x y, v = .tuple #[x, y]) (h0 : tl ≠ 0) {ce : List Value} (h1 : ce[12]? = some (.pointer bp)) (h2 : ce[17]? = some (.int .i64 tl)) (h : Ct Tryz.prog 116 #[.pointer bp] [A] R E) : Ct Tryz.prog 113 #[.pointer (some ⟨rb, 0, none⟩)] [blk rb (cl ce 110), A] (wR (blk rb (cl ce 110)) R) (wE (blk rb (cl ce 110)) E) := by
  refine Ct.of Tryz.func113 rfl Tryz.ntmps113 rfl fun m F => ?_
  repeat (first | refine wZ ?_ | intro b)
  refine l_plain rfl ?_
  apply s_val rfl rfl
  · exact r_load rfl rfl (rd_blk 0 rfl h2)
  repeat (first | refine wZ ?_ | intro b)
  rw [decide_eq_false h0]
  repeat (first | refine wZ ?_ | intro b)
  refine l_plain rfl ?_
  apply s_val rfl rfl
  · exact r_load rfl rfl (rd_blk 0 rfl h1)
  repeat (first | refine wZ ?_ | intro b)
  refine l_plain rfl (s_call rfl rfl h [1] rfl ?_ ?_)
  · intro v B hR
    obtain ⟨x, y, rfl⟩ := hR2 v B hR
    repeat (first | refine wZ ?_ | intro b)
    exact e_ret2 _ rfl rfl rfl ⟨B, hR, rfl⟩ (Ent.mid _ _)
  · intro c B hE
    repeat (first | refine wZ ?_ | intro b)
    exact e_pan _ ⟨B, hE, rfl⟩ (Ent.mid _ _)
theorem RSize_a (hR2 : ∀ v B, R v B → ∃ x y, v = .tuple #[x, y]) (h0 : tl ≠ 0) (hS : ∀ c B, E c B → settle (.panicking c) = .panicking c) (h : Ct Tryz.prog 116 #[.pointer bp] [A] R E) : Ct Tryz.prog 105 #[.pointer (some ⟨rb, 0, none⟩)] [rP rb bp ck v' tl cld, A] (wR (rP rb bp ck v' tl cld) R) (wE (rP rb bp ck v' tl cld) E) := by
  refine Ct.ofD Tryz.func105 rfl Tryz.ntmps105 rfl fun m F => ?_
  unfold rP
  repeat (first | refine wZ ?_ | intro b)
  refine l_plain rfl (s_call rfl rfl (wlock_ct rwWLib rfl rfl rfl rfl) [0] rfl ?_ (fun _ _ h => h.elim))
  rintro _ _ ⟨rfl, rfl⟩
  repeat (first | refine wZ ?_ | intro b)
  refine l_plain rfl (s_defer rfl rfl ?_)
  repeat (first | refine wZ ?_ | intro b)
  refine l_plain rfl (s_call rfl rfl (Rsize_a hR2 h0 rfl rfl h) [0, 0] rfl ?_ ?_)
  · rintro v _ ⟨B, hR, rfl⟩
    obtain ⟨x, y, rfl⟩ := hR2 v B hR
    repeat (first | refine wZ ?_ | intro b)
    refine gl_ret (gl_def [0] rfl (by simp) rfl rfl (wunlock_dct rwWLib rfl rfl rfl rfl) ?_)
    exact gl_r2 _ rfl rfl rfl ⟨B, hR, rfl⟩ (Ent.refl _)
  · rintro c _ ⟨B, hE, rfl⟩
    repeat (first | refine wZ ?_ | intro b)
    refine gl_pan (gl_def [0] rfl (by simp) (hS _ _ hE) rfl (wunlock_dct rwWLib rfl rfl rfl rfl) ?_)
    exact gl_p _ ⟨B, hE, rfl⟩ (Ent.refl _)

theorem RReadAt_a {v1 v2 : Value} (hR2 : ∀ v B, R v B → ∃ x y, v = .tuple #[x, y]) (h0 : tl ≠ 0) (hS : ∀ c B, E c B → settle (.panicking c) = .panicking c) (h : Ct Tryz.prog 120 #[.pointer bp, v1, v2] [A] R E) : Ct Tryz.prog 103 #[.pointer (some ⟨rb, 0, none⟩), v1, v2] [rP rb bp ck v' tl cld, A] (wR (rP rb bp ck v' tl cld) R) (wE (rP rb bp ck v' tl cld) E) := by
  refine Ct.ofD Tryz.func103 rfl Tryz.ntmps103 rfl fun m F => ?_
  unfold rP
  repeat (first | refine wZ ?_ | intro b)
  refine l_plain rfl (s_call rfl rfl (rlock_ct rwRLib rfl rfl rfl) [0] rfl ?_ (fun _ _ h => h.elim))
  rintro _ _ ⟨rfl, rfl⟩
  repeat (first | refine wZ ?_ | intro b)
  refine l_plain rfl (s_defer rfl rfl ?_)
  repeat (first | refine wZ ?_ | intro b)
  refine l_plain rfl (s_call rfl rfl (rlock_ct rwRLib rfl rfl rfl) [0] rfl ?_ (fun _ _ h => h.elim))
  rintro _ _ ⟨rfl, rfl⟩
  repeat (first | refine wZ ?_ | intro b)
  refine l_plain rfl (s_defer rfl rfl ?_)
  repeat (first | refine wZ ?_ | intro b)
  rw [decide_eq_false h0]
  repeat (first | refine wZ ?_ | intro b)
  refine l_plain rfl (s_call rfl rfl h [1] rfl ?_ ?_)
  · intro v B hR
    obtain ⟨x, y, rfl⟩ := hR2 v B hR
    refine G.ent (Ent.mid _ _) ?_
    repeat (first | refine wZ ?_ | intro b)
    refine gl_ret ?_
    refine gl_def [0] rfl (by simp) rfl rfl (runlock_dct rwRLib rfl rfl rfl) ?_
    refine gl_def [0] rfl (by simp) rfl rfl (runlock_dct rwRLib rfl rfl rfl) ?_
    exact gl_r2 _ rfl rfl rfl ⟨B, hR, rfl⟩ (Ent.refl _)
  · intro c B hE
    refine G.ent (Ent.mid _ _) ?_
    repeat (first | refine wZ ?_ | intro b)
    refine gl_pan ?_
    refine gl_def [0] rfl (by simp) (hS _ _ hE) rfl (runlock_dct rwRLib rfl rfl rfl) ?_
    refine gl_def [0] rfl (by simp) (hS _ _ hE) rfl (runlock_dct rwRLib rfl rfl rfl) ?_
    exact gl_p _ ⟨B, hE, rfl⟩ (Ent.refl _)

theorem RPunch_off {off n : Int} (h0 : tl ≠ 0) (ho : off < 0) (h : MCt Tryz.prog v' "Name" [] [A] (fun v B => v = .string nameS ∧ B = [A]) nev) : Ct Tryz.prog 102 #[.pointer (some ⟨rb, 0, none⟩), .int .i64 off, .int .i64 n] [rP rb bp ck v' tl cld, A] (fun v B => ∃ b, v = invV b ∧ B = [rP rb bp ck v' tl cld, A]) nev := by
  refine Ct.ofD Tryz.func102 rfl Tryz.ntmps102 rfl fun m F => ?_
  unfold rP
  repeat (first | refine wZ ?_ | intro b)
  refine l_plain rfl (s_call rfl rfl (wlock_ct rwWLib rfl rfl rfl rfl) [0] rfl ?_ (fun _ _ h => h.elim))
  rintro _ _ ⟨rfl, rfl⟩
  repeat (first | refine wZ ?_ | intro b)
  refine l_plain rfl (s_defer rfl rfl ?_)
  repeat (first | refine wZ ?_ | intro b)
  rw [decide_eq_false h0]
  repeat (first | refine wZ ?_ | intro b)
  rw [decide_eq_true ho]
  repeat (first | refine wZ ?_ | intro b)
  refine l_plain rfl (s_invokeM rfl rfl rfl h [1] rfl ?_ (fun _ _ h => h.elim))
  rintro _ _ ⟨rfl, rfl⟩
  refine l_plain rfl ?_
  apply s_val rfl rfl
  · exact RunS.v (r_strAdd rfl rfl (Nat.le_of_ble_eq_true rfl))
  generalize nameS ++ _ = str
  repeat (first | refine wZ ?_ | intro b)
  refine l_plain rfl ?_
  apply s_val rfl rfl
  · exact RunS.v (r_build (cells := #[.string str, .iface 2 (.int .i64 off)]) rfl (by kernel_rfl))
  repeat (first | refine wZ ?_ | intro b)
  refine gl_ret (gl_def [2] rfl (by simp) rfl rfl (wunlock_dct rwWLib rfl rfl rfl rfl) ?_)
  exact gl_r1 _ rfl rfl ⟨b, rfl, rfl⟩ (arr_ent 1 [0, 1] _)

theorem RPunch_n {off n : Int} (h0 : tl ≠ 0) (ho : 0 ≤ off) (hn : n < 0) (h : MCt Tryz.prog v' "Name" [] [A] (fun v B => v = .string nameS ∧ B = [A]) nev) : Ct Tryz.prog 102 #[.pointer (some ⟨rb, 0, none⟩), .int .i64 off, .int .i64 n] [rP rb bp ck v' tl cld, A] (fun v B => ∃ b, v = invV b ∧ B = [rP rb bp ck v' tl cld, A]) nev := by
  refine Ct.ofD Tryz.func102 rfl Tryz.ntmps102 rfl fun m F => ?_
  unfold rP
  repeat (first | refine wZ ?_ | intro b)
  refine l_plain rfl (s_call rfl rfl (wlock_ct rwWLib rfl rfl rfl rfl) [0] rfl ?_ (fun _ _ h => h.elim))
  rintro _ _ ⟨rfl, rfl⟩
  repeat (first | refine wZ ?_ | intro b)
  refine l_plain rfl (s_defer rfl rfl ?_)
  repeat (first | refine wZ ?_ | intro b)
  rw [decide_eq_false h0]
  repeat (first | refine wZ ?_ | intro b)
  rw [decide_eq_false (by omega : ¬ off < 0)]
  repeat (first | refine wZ ?_ | intro b)
  rw [decide_eq_true hn]
  repeat (first | refine wZ ?_ | intro b)
  refine l_plain rfl (s_invokeM rfl rfl rfl h [1] rfl ?_ (fun _ _ h => h.elim))
  rintro _ _ ⟨rfl, rfl⟩
  refine l_plain rfl ?_
  apply s_val rfl rfl
  · exact RunS.v (r_strAdd rfl rfl (Nat.le_of_ble_eq_true rfl))
  generalize nameS ++ _ = str
  repeat (first | refine wZ ?_ | intro b)
  refine l_plain rfl ?_
  apply s_val rfl rfl
  · exact RunS.v (r_build (cells := #[.string str, .iface 2 (.int .i64 n)]) rfl (by kernel_rfl))
  repeat (first | refine wZ ?_ | intro b)
  refine gl_ret (gl_def [2] rfl (by simp) rfl rfl (wunlock_dct rwWLib rfl rfl rfl rfl) ?_)
  exact gl_r1 _ rfl rfl ⟨b, rfl, rfl⟩ (arr_ent 1 [0, 1] _)

end
end Go.Proofs.YtfebpbflpdppiaaGreatDoor
namespace Go.Proofs.YtfebpbflpdppiaaGreatDoor
open Go Go.Sl
set_option maxRecDepth 100000
theorem Dct.of {P : Program} {n : Nat} {f : FuncId} {fn : Func} {c : Code} {args : Array Value} {A A' : List HP}
    (hf : P.funcs[f]? = some fn) (hb : fn.body = some c) (hn : fn.ntmps = n) (ha : Nat.ble args.size n = true)
    (h : ∀ m F, G n [] (argEnv 0 args.toList) m (A ++ F) (c.wp P (bodyPost P fn (fin (fun v B => v = .tuple #[] ∧ B = A') nev m F)))) : Dct P f args A A' := fun m F w u hw => by
  refine (callsD_of_wp (u := u) hf hb (h m F _ w rfl ?_ ?_ hw)).mono ?_
  · have := Nat.le_of_ble_eq_true ha
    simp [hn]; omega
  · refine argEnv_agr _ 0 _ fun j v hv => ?_
    simp only [Nat.zero_add]
    have hj : j < args.size := by
      rcases Nat.lt_or_ge j args.size with h' | h'
      · exact h'
      · simp [Array.getElem?_eq_none h'] at hv
    rw [Array.getElem?_append_left hj]
    simpa using hv
  · rintro e u' w' ⟨rfl, he⟩
    cases e with
    | returned v =>
      obtain ⟨B, ⟨rfl, rfl⟩, h2⟩ := he
      exact ⟨rfl, rfl, h2⟩
    | panicked c =>
      obtain ⟨B, h1, h2⟩ := he
      exact h1.elim
    | outgrown => exact he.elim
/-- a panic of Go's own, and what stands behind it -/
def pnE (L : List HP) : List PanicEntry → List HP → Prop := fun c B => (∃ T v, c = [{ v := .iface T v, recovered := false }]) ∧ B = L
theorem pnE_s {L : List HP} : ∀ c B, pnE L c B → settle (.panicking c) = .panicking c := fun c B h => by
  obtain ⟨⟨T, v, rfl⟩, _⟩ := h
  rfl
def none_ : Value → List HP → Prop := fun _ _ => False
attribute [local irreducible] wpList Code.wp Exit.then Exit.inBlock bodyPost RunS RunV G St Ct Sat Ent At Rd GQ QL wpAny wpOp wpQuiet slP Sl.ex sep
attribute [local irreducible] zf memf pgl rng ov cutC zc mapO rdd bme
section
theorem bSize_nil : Ct Tryz.prog 116 #[.pointer none] [] none_ (pnE []) := by
  refine Ct.of Tryz.func116 rfl Tryz.ntmps116 rfl fun m F => ?_
  repeat (first | refine wZ ?_ | intro b)
  refine l_plain rfl (s_nilPan rfl fun T v => ?_)
  repeat (first | refine wZ ?_ | intro b)
  exact e_pan _ ⟨⟨T, v, rfl⟩, rfl⟩ (Ent.refl _)
theorem bRead_nil {v1 v2 : Value} : Ct Tryz.prog 120 #[.pointer none, v1, v2] [] none_ (pnE []) := by
  refine Ct.of Tryz.func120 rfl Tryz.ntmps120 rfl fun m F => ?_
  repeat (first | refine wZ ?_ | intro b)
  refine l_plain rfl (s_nilPan rfl fun T v => ?_)
  repeat (first | refine wZ ?_ | intro b)
  exact e_pan _ ⟨⟨T, v, rfl⟩, rfl⟩ (Ent.refl _)
theorem free_nil : Ct Tryz.prog 112 #[.pointer none] [] none_ (pnE []) := by
  refine Ct.of Tryz.func112 rfl Tryz.ntmps112 rfl fun m F => ?_
  repeat (first | refine wZ ?_ | intro b)
  refine l_plain rfl (s_nilPan rfl fun T v => ?_)
  repeat (first | refine wZ ?_ | intro b)
  exact e_pan _ ⟨⟨T, v, rfl⟩, rfl⟩ (Ent.refl _)
theorem bTrunc_nil {n : Nat} (hn : n ≤ 1000000000000) : Ct Tryz.prog 122 #[.pointer none, .int .i64 (n : Nat)] [] none_ (pnE []) := by
  refine Ct.of Tryz.func122 rfl Tryz.ntmps122 rfl fun m F => ?_
  repeat (first | refine wZ ?_ | intro b)
  rcases Nat.eq_zero_or_pos n with h0 | h0
  · subst h0
    rw [decide_eq_false (by omega : ¬ ((0 : Nat) : Int) < 0)]
    repeat (first | refine wZ ?_ | intro b)
    refine l_plain rfl (s_mkMap rfl fun mb2 => ?_)
    repeat (first | refine wZ ?_ | intro b)
    refine l_plain rfl (s_nilPan rfl fun T v => ?_)
    repeat (first | refine wZ ?_ | intro b)
    exact e_pan _ ⟨⟨T, v, rfl⟩, rfl⟩ Ent.drop
  · rw [decide_eq_false (by omega : ¬ ((n : Nat) : Int) < 0)]
    repeat (first | refine wZ ?_ | intro b)
    rw [decide_eq_false (by omega : ¬ ((n : Nat) : Int) = 0)]
    repeat (first | refine wZ ?_ | intro b)
    refine c_mid (α := Value) (fun y => [(0, .pointer none), (5, y)]) (fun _ => F) (fun _ => True) ?_ ?_
    · refine c_cond rfl (fun h => ?_) (fun h => ?_)
      · repeat (first | refine wZ ?_ | intro b)
        exact at_intro (.int .i64 (n / 4096 + 1 : Nat)) trivial ⟨rfl, rfl, trivial⟩ (Ent.refl _)
      · repeat (first | refine wZ ?_ | intro b)
        exact at_intro (.int .i64 (n / 4096 : Nat)) trivial ⟨rfl, rfl, trivial⟩ (Ent.refl _)
    intro y _
    repeat (first | refine wZ ?_ | intro b)
    refine l_plain rfl (s_nilPan rfl fun T v => ?_)
    repeat (first | refine wZ ?_ | intro b)
    exact e_pan _ ⟨⟨T, v, rfl⟩, rfl⟩ (Ent.refl _)
theorem bWrite_nil {a : Option Addr} {k cp : Nat} {v2 : Int} (hv : -9000000000000000 ≤ v2 ∧ v2 ≤ 9000000000000000) : Ct Tryz.prog 123 #[.pointer none, .slice a k cp, .int .i64 v2] [] none_ (pnE []) := by
  refine Ct.of Tryz.func123 rfl Tryz.ntmps123 rfl fun m F => ?_
  repeat (first | refine wZ ?_ | intro b)
  refine c_loop (α := Unit) (fun _ => [(0, .pointer none), (11, .int .i64 (k : Nat))]) (fun _ => F) (fun _ => True) (fun _ => 0) () trivial (by exact ⟨rfl, rfl, trivial⟩) (Ent.refl _) ?_
  intro _ _
  repeat (first | refine wZ ?_ | intro b)
  refine c_cond rfl (fun h => ?_) (fun h => ?_)
  · repeat (first | refine wZ ?_ | intro b)
    refine l_plain rfl (s_nilPan rfl fun T v => ?_)
    repeat (first | refine wZ ?_ | intro b)
    exact e_pan _ ⟨⟨T, v, rfl⟩, rfl⟩ (Ent.refl _)
  · repeat (first | refine wZ ?_ | intro b)
    refine l_plain rfl (s_nilPan rfl fun T v => ?_)
    repeat (first | refine wZ ?_ | intro b)
    exact e_pan _ ⟨⟨T, v, rfl⟩, rfl⟩ (Ent.refl _)
theorem newBit_nil : Ct Tryz.prog 111 #[.iface 107 (.pointer none)] [] none_ (pnE []) := by
  refine Ct.of Tryz.func111 rfl Tryz.ntmps111 rfl fun m F => ?_
  repeat (first | refine wZ ?_ | intro b)
  refine l_plain rfl (s_invoke rfl rfl rfl bSize_nil [] rfl ?_ ?_)
  · intro v B h
    exact h.elim
  · rintro c B ⟨⟨T, v, rfl⟩, rfl⟩
    repeat (first | refine wZ ?_ | intro b)
    exact e_pan _ ⟨⟨T, v, rfl⟩, rfl⟩ (Ent.refl _)
end
end Go.Proofs.YtfebpbflpdppiaaGreatDoor
namespace Go.Proofs.YtfebpbflpdppiaaGreatDoor
open Go Go.Sl
set_option maxRecDepth 100000
attribute [local irreducible] wpList Code.wp Exit.then Exit.inBlock bodyPost RunS RunV G St Ct Sat Ent At Rd GQ QL wpAny wpOp wpQuiet slP Sl.ex sep
attribute [local irreducible] zf memf pgl rng ov cutC zc mapO rdd bme bf bx
section
variable {rb : Nat} {bp : Option Addr} {ck v' : Value} {cld : Bool} {A : HP} {tl : Int} {R : Value → List HP → Prop} {E : List PanicEntry → List HP → Prop} {s : Nat}
theorem RBegin_0 (cb : Cn) (h : MCt Tryz.prog v' "Size" [] [A] (fun v B => v = .tuple #[.int .i64 (s : Nat), .nilIface] ∧ B = [A]) nev) : Ct Tryz.prog 98 #[.pointer (some ⟨rb, 0, none⟩)] [rP rb bp ck v' 0 cld, A]
    (fun v B => ∃ bb, v = .nilIface ∧ B = [rP rb (some ⟨bb, 0, none⟩) ck v' 1 cld, A, bf bb v' cb cb s (fun _ => false)]) nev := by
  refine Ct.ofD Tryz.func98 rfl Tryz.ntmps98 rfl fun m F => ?_
  unfold rP
  repeat (first | refine wZ ?_ | intro b)
  refine l_plain rfl (s_call rfl rfl (wlock_ct rwWLib rfl rfl rfl rfl) [0] rfl ?_ (fun _ _ h => h.elim))
  rintro _ _ ⟨rfl, rfl⟩
  repeat (first | refine wZ ?_ | intro b)
  refine l_plain rfl (s_defer rfl rfl ?_)
  repeat (first | refine wZ ?_ | intro b)
  refine l_plain rfl (s_call rfl rfl (newBitFiler_c (cb := cb) h) [1] rfl ?_ (fun _ _ h => h.elim))
  rintro _ _ ⟨bb, rfl, rfl⟩
  repeat (first | refine wZ ?_ | intro b)
  refine gl_nor (gl_def [0] rfl (by simp) rfl rfl (wunlock_dct rwWLib rfl rfl rfl rfl) ?_)
  exact gl_r1 _ rfl rfl ⟨bb, rfl, rfl⟩ (Ent.refl _)
theorem RBegin_a (cb : Cn) (h0 : 0 < tl ∧ tl ≤ 1000000) (h : MCt Tryz.prog (.iface 107 (.pointer bp)) "Size" [] [A] (fun v B => v = .tuple #[.int .i64 (s : Nat), .nilIface] ∧ B = [A]) nev) : Ct Tryz.prog 98 #[.pointer (some ⟨rb, 0, none⟩)] [rP rb bp ck v' tl cld, A]
    (fun v B => ∃ bb, v = .nilIface ∧ B = [rP rb (some ⟨bb, 0, none⟩) ck v' (tl + 1) cld, A, bf bb (.iface 107 (.pointer bp)) cb cb s (fun _ => false)]) nev := by
  refine Ct.ofD Tryz.func98 rfl Tryz.ntmps98 rfl fun m F => ?_
  unfold rP
  repeat (first | refine wZ ?_ | intro b)
  refine l_plain rfl (s_call rfl rfl (wlock_ct rwWLib rfl rfl rfl rfl) [0] rfl ?_ (fun _ _ h => h.elim))
  rintro _ _ ⟨rfl, rfl⟩
  repeat (first | refine wZ ?_ | intro b)
  refine l_plain rfl (s_defer rfl rfl ?_)
  repeat (first | refine wZ ?_ | intro b)
  rw [decide_eq_false (by omega : ¬ tl = 0)]
  repeat (first | refine wZ ?_ | intro b)
  refine l_plain rfl (s_call rfl rfl (newBitFiler_c (cb := cb) h) [1] rfl ?_ (fun _ _ h => h.elim))
  rintro _ _ ⟨bb, rfl, rfl⟩
  repeat (first | refine wZ ?_ | intro b)
  refine gl_nor (gl_def [0] rfl (by simp) rfl rfl (wunlock_dct rwWLib rfl rfl rfl rfl) ?_)
  exact gl_r1 _ rfl rfl ⟨bb, rfl, rfl⟩ (Ent.refl _)
theorem RBegin_b (h0 : tl ≠ 0) : Ct Tryz.prog 98 #[.pointer (some ⟨rb, 0, none⟩)] [rP rb none ck v' tl cld] none_ (pnE [rP rb none ck v' tl cld]) := by
  refine Ct.ofD Tryz.func98 rfl Tryz.ntmps98 rfl fun m F => ?_
  unfold rP
  repeat (first | refine wZ ?_ | intro b)
  refine l_plain rfl (s_call rfl rfl (wlock_ct rwWLib rfl rfl rfl rfl) [0] rfl ?_ (fun _ _ h => h.elim))
  rintro _ _ ⟨rfl, rfl⟩
  repeat (first | refine wZ ?_ | intro b)
  refine l_plain rfl (s_defer rfl rfl ?_)
  repeat (first | refine wZ ?_ | intro b)
  rw [decide_eq_false h0]
  repeat (first | refine wZ ?_ | intro b)
  refine l_plain rfl (s_call rfl rfl newBit_nil [] rfl ?_ ?_)
  · intro v B h
    exact h.elim
  · rintro c B ⟨⟨T, v, rfl⟩, rfl⟩
    repeat (first | refine wZ ?_ | intro b)
    refine gl_pan (gl_def [0] rfl (by simp) rfl rfl (wunlock_dct rwWLib rfl rfl rfl rfl) ?_)
    exact gl_p _ ⟨⟨T, v, rfl⟩, rfl⟩ (Ent.refl _)
theorem RRoll_0 (h : MCt Tryz.prog v' "Name" [] [A] (fun v B => v = .string nameS ∧ B = [A]) nev) : Ct Tryz.prog 104 #[.pointer (some ⟨rb, 0, none⟩)] [rP rb bp ck v' 0 cld, A] (fun v B => ∃ b, v = permV b ∧ B = [rP rb bp ck v' 0 cld, A]) nev := by
  refine Ct.ofD Tryz.func104 rfl Tryz.ntmps104 rfl fun m F => ?_
  unfold rP
  repeat (first | refine wZ ?_ | intro b)
  refine l_plain rfl (s_call rfl rfl (wlock_ct rwWLib rfl rfl rfl rfl) [1] rfl ?_ (fun _ _ h => h.elim))
  rintro _ _ ⟨rfl, rfl⟩
  repeat (first | refine wZ ?_ | intro b)
  refine l_plain rfl (s_defer rfl rfl ?_)
  repeat (first | refine wZ ?_ | intro b)
  refine l_plain rfl (s_invokeM rfl rfl rfl h [2] rfl ?_ (fun _ _ h => h.elim))
  rintro _ _ ⟨rfl, rfl⟩
  repeat (first | refine wZ ?_ | intro b)
  refine l_plain rfl ?_
  apply s_val rfl rfl
  · exact RunS.v (r_strAdd rfl rfl (Nat.le_of_ble_eq_true rfl))
  generalize nameS ++ _ = str
  refine l_plain rfl ?_
  apply s_val rfl rfl
  · exact RunS.v (r_build (cells := #[.string str]) rfl (by kernel_rfl))
  repeat (first | refine wZ ?_ | intro b)
  refine gl_ret (gl_def [2] rfl (by simp) rfl rfl (wunlock_dct rwWLib rfl rfl rfl rfl) ?_)
  exact gl_r1 _ rfl rfl ⟨b, rfl, rfl⟩ (arr_ent 2 [0, 1] _)
theorem RRoll_1 : Ct Tryz.prog 104 #[.pointer (some ⟨rb, 0, none⟩)] [rP rb bp ck v' 1 cld] (fun v B => v = .nilIface ∧ B = [rP rb bp ck v' 0 cld]) nev := by
  refine Ct.ofD Tryz.func104 rfl Tryz.ntmps104 rfl fun m F => ?_
  unfold rP
  repeat (first | refine wZ ?_ | intro b)
  refine l_plain rfl (s_call rfl rfl (wlock_ct rwWLib rfl rfl rfl rfl) [1] rfl ?_ (fun _ _ h => h.elim))
  rintro _ _ ⟨rfl, rfl⟩
  repeat (first | refine wZ ?_ | intro b)
  refine l_plain rfl (s_defer rfl rfl ?_)
  repeat (first | refine wZ ?_ | intro b)
  refine l_plain rfl ?_
  apply s_val rfl rfl
  · exact RunS.v (r_neNF rfl rfl)
  repeat (first | refine wZ ?_ | intro b)
  refine gl_nor (gl_def [0] rfl (by simp) rfl rfl (wunlock_dct rwWLib rfl rfl rfl rfl) ?_)
  exact gl_r1 _ rfl rfl ⟨rfl, rfl⟩ (arr_ent 1 [0] _)
theorem RRoll_a {bb b0 : Nat} (h0 : 1 < tl ∧ tl ≤ 1000000) : Ct Tryz.prog 104 #[.pointer (some ⟨rb, 0, none⟩)] [rP rb (some ⟨bb, 0, none⟩) ck v' tl cld, bx bb (.iface 107 (.pointer (some ⟨b0, 0, none⟩))) s] (fun v B => v = .nilIface ∧ B = [rP rb (some ⟨b0, 0, none⟩) ck v' (tl - 1) cld]) nev := by
  refine Ct.ofD Tryz.func104 rfl Tryz.ntmps104 rfl fun m F => ?_
  unfold rP
  repeat (first | refine wZ ?_ | intro b)
  refine l_plain rfl (s_call rfl rfl (wlock_ct rwWLib rfl rfl rfl rfl) [1] rfl ?_ (fun _ _ h => h.elim))
  rintro _ _ ⟨rfl, rfl⟩
  repeat (first | refine wZ ?_ | intro b)
  refine l_plain rfl (s_defer rfl rfl ?_)
  repeat (first | refine wZ ?_ | intro b)
  rw [decide_eq_false (by omega : ¬ tl = 0)]
  repeat (first | refine wZ ?_ | intro b)
  rw [decide_eq_true (by omega : 1 < tl)]
  repeat (first | refine wZ ?_ | intro b)
  refine l_plain rfl (s_call rfl rfl xfree_c [2] rfl ?_ (fun _ _ h => h.elim))
  rintro _ _ ⟨rfl, rfl⟩
  refine bx_open fun mb c l k hx => ?_
  repeat (first | refine wY ?_ | intro b)
  refine h_any [blk bb (cl (bcells (.iface 107 (.pointer (some ⟨b0, 0, none⟩))) mb s) 180), blk b (cl [.pointer (some ⟨rb, 0, none⟩)] 58)] 12 rfl ?_
  have hE : Ent (blk bb (cl (bcells (.iface 107 (.pointer (some ⟨b0, 0, none⟩))) mb s) 180) :: blk mb (mapO (bme l) k) :: bpgs c l :: blk rb (cl (wlk (rcells (some ⟨bb, 0, none⟩) ck v' tl cld) (0 + 0)) 110) :: blk b (cl [.pointer (some ⟨rb, 0, none⟩)] 58) :: F) [blk bb (cl (bcells (.iface 107 (.pointer (some ⟨b0, 0, none⟩))) mb s) 180), blk b (cl [.pointer (some ⟨rb, 0, none⟩)] 58)] := Ent.trans (arr_ent 0 [0, 3] _) (Ent.left [_, _] _)
  refine h_take (by assumption) 0 rfl (by kernel_rfl) (by kernel_rfl) (by kernel_rfl) rfl rfl rfl pQ rV ?_
  refine h_take (by assumption) 1 rfl (by kernel_rfl) (by kernel_rfl) (by kernel_rfl) rfl rfl rfl pQ rV ?_
  refine h_take (by assumption) 2 rfl (by kernel_rfl) (by kernel_rfl) (by kernel_rfl) rfl rfl rfl pQ rV ?_
  refine h_take (by assumption) 3 rfl (by kernel_rfl) (by kernel_rfl) (by kernel_rfl) rfl rfl rfl pQ rV ?_
  refine h_one 4 (by kernel_rfl) rfl rfl ?_
  apply s_val rfl rfl
  · exact r_load rfl rfl (rd_blk 3 rfl rfl)
  refine h_then hE ?_
  refine h_take (by assumption) 5 rfl (by kernel_rfl) (by kernel_rfl) (by kernel_rfl) rfl rfl rfl pQ rV ?_
  refine h_take (by assumption) 6 rfl (by kernel_rfl) (by kernel_rfl) (by kernel_rfl) rfl rfl rfl pQ rV ?_
  refine h_take (by assumption) 7 rfl (by kernel_rfl) (by kernel_rfl) (by kernel_rfl) rfl rfl rfl pQ rV ?_
  refine h_take hE 8 rfl (by kernel_rfl) (by kernel_rfl) (by kernel_rfl) rfl rfl rfl pQ (RunS.v (r_asIs rfl rfl)) ?_
  refine h_take (by assumption) 9 rfl (by kernel_rfl) (by kernel_rfl) (by kernel_rfl) rfl rfl rfl pQ rV ?_
  refine h_take (by assumption) 10 rfl (by kernel_rfl) (by kernel_rfl) (by kernel_rfl) rfl rfl rfl pQ rV ?_
  refine h_one 11 (by kernel_rfl) rfl rfl ?_
  refine s_store (i := 3) rfl rfl rfl rfl rfl rfl (by simp [wlk, rcells]) ?_
  refine h_then (Ent.trans (arr_ent 0 [1, 3] _) (Ent.left [_, _] _)) ?_
  refine h_done (by kernel_rfl) ?_
  refine q_then_n ?_
  repeat (first | refine wZ ?_ | intro b)
  refine l_plain rfl ?_
  apply s_val rfl rfl
  · exact RunS.v (r_neNF rfl rfl)
  repeat (first | refine wZ ?_ | intro b)
  refine gl_ret (gl_def [0] rfl (by simp) rfl rfl (wunlock_dct rwWLib rfl rfl rfl rfl) ?_)
  exact gl_r1 _ rfl rfl ⟨rfl, rfl⟩ (arr_ent 4 [0] _)
theorem RRoll_b (h0 : 1 < tl ∧ tl ≤ 1000000) : Ct Tryz.prog 104 #[.pointer (some ⟨rb, 0, none⟩)] [rP rb none ck v' tl cld] none_ (pnE [rP rb none ck v' tl cld]) := by
  refine Ct.ofD Tryz.func104 rfl Tryz.ntmps104 rfl fun m F => ?_
  unfold rP
  repeat (first | refine wZ ?_ | intro b)
  refine l_plain rfl (s_call rfl rfl (wlock_ct rwWLib rfl rfl rfl rfl) [1] rfl ?_ (fun _ _ h => h.elim))
  rintro _ _ ⟨rfl, rfl⟩
  repeat (first | refine wZ ?_ | intro b)
  refine l_plain rfl (s_defer rfl rfl ?_)
  repeat (first | refine wZ ?_ | intro b)
  rw [decide_eq_false (by omega : ¬ tl = 0)]
  repeat (first | refine wZ ?_ | intro b)
  rw [decide_eq_true (by omega : 1 < tl)]
  repeat (first | refine wZ ?_ | intro b)
  refine l_plain rfl (s_call rfl rfl free_nil [] rfl ?_ ?_)
  · intro v B h
    exact h.elim
  · rintro c B ⟨⟨T, v, rfl⟩, rfl⟩
    repeat (first | refine wZ ?_ | intro b)
    refine gl_pan (gl_def [0] rfl (by simp) rfl rfl (wunlock_dct rwWLib rfl rfl rfl rfl) ?_)
    exact gl_p _ ⟨⟨T, v, rfl⟩, rfl⟩ (arr_ent 1 [0] _)
end
end Go.Proofs.YtfebpbflpdppiaaGreatDoor
namespace Go.Proofs.YtfebpbflpdppiaaGreatDoor
open Go Go.Sl
set_option maxRecDepth 100000
attribute [local irreducible] wpList Code.wp Exit.then Exit.inBlock bodyPost RunS RunV G St Ct Sat Ent At Rd GQ QL wpAny wpOp wpQuiet slP Sl.ex sep
attribute [local irreducible] zf memf pgl rng ov cutC zc mapO rdd bme bf bx
section
variable {rb : Nat} {bp : Option Addr} {ck v' : Value} {cld : Bool} {A : HP} {tl : Int} {s : Nat} {ea : Addr}
theorem REnd_0 (h : MCt Tryz.prog v' "Name" [] [A] (fun v B => v = .string nameS ∧ B = [A]) nev) : Ct Tryz.prog 100 #[.pointer (some ⟨rb, 0, none⟩)] [rP rb bp ck v' 0 cld, A] (fun v B => ∃ b, v = permV b ∧ B = [rP rb bp ck v' 0 cld, A]) nev := by
  refine Ct.ofD Tryz.func100 rfl Tryz.ntmps100 rfl fun m F => ?_
  unfold rP
  repeat (first | refine wZ ?_ | intro b)
  refine l_plain rfl (s_call rfl rfl (wlock_ct rwWLib rfl rfl rfl rfl) [1] rfl ?_ (fun _ _ h => h.elim))
  rintro _ _ ⟨rfl, rfl⟩
  repeat (first | refine wZ ?_ | intro b)
  refine l_plain rfl (s_defer rfl rfl ?_)
  repeat (first | refine wZ ?_ | intro b)
  refine l_plain rfl (s_invokeM rfl rfl rfl h [2] rfl ?_ (fun _ _ h => h.elim))
  rintro _ _ ⟨rfl, rfl⟩
  repeat (first | refine wZ ?_ | intro b)
  refine l_plain rfl ?_
  apply s_val rfl rfl
  · exact RunS.v (r_strAdd rfl rfl (Nat.le_of_ble_eq_true rfl))
  generalize nameS ++ _ = str
  refine l_plain rfl ?_
  apply s_val rfl rfl
  · exact RunS.v (r_build (cells := #[.string str]) rfl (by kernel_rfl))
  repeat (first | refine wZ ?_ | intro b)
  refine gl_ret (gl_def [2] rfl (by simp) rfl rfl (wunlock_dct rwWLib rfl rfl rfl rfl) ?_)
  exact gl_r1 _ rfl rfl ⟨b, rfl, rfl⟩ (arr_ent 2 [0, 1] _)
theorem Rsize_b (h0 : tl ≠ 0) {ce : List Value} (h1 : ce[12]? = some (.pointer none)) (h2 : ce[17]? = some (.int .i64 tl)) : Ct Tryz.prog 113 #[.pointer (some ⟨rb, 0, none⟩)] [blk rb (cl ce 110)] none_ (pnE [blk rb (cl ce 110)]) := by
  refine Ct.of Tryz.func113 rfl Tryz.ntmps113 rfl fun m F => ?_
  repeat (first | refine wZ ?_ | intro b)
  refine l_plain rfl ?_
  apply s_val rfl rfl
  · exact r_load rfl rfl (rd_blk 0 rfl h2)
  repeat (first | refine wZ ?_ | intro b)
  rw [decide_eq_false h0]
  repeat (first | refine wZ ?_ | intro b)
  refine l_plain rfl ?_
  apply s_val rfl rfl
  · exact r_load rfl rfl (rd_blk 0 rfl h1)
  repeat (first | refine wZ ?_ | intro b)
  refine l_plain rfl (s_call rfl rfl bSize_nil [] rfl ?_ ?_)
  · intro v B hR
    exact hR.elim
  · rintro c B ⟨⟨T, v, rfl⟩, rfl⟩
    repeat (first | refine wZ ?_ | intro b)
    exact e_pan _ ⟨⟨T, v, rfl⟩, rfl⟩ (Ent.refl _)
theorem REnd_b (h0 : tl ≠ 0) : Ct Tryz.prog 100 #[.pointer (some ⟨rb, 0, none⟩)] [rP rb none ck v' tl cld] none_ (pnE [rP rb none ck v' tl cld]) := by
  refine Ct.ofD Tryz.func100 rfl Tryz.ntmps100 rfl fun m F => ?_
  unfold rP
  repeat (first | refine wZ ?_ | intro b)
  refine l_plain rfl (s_call rfl rfl (wlock_ct rwWLib rfl rfl rfl rfl) [1] rfl ?_ (fun _ _ h => h.elim))
  rintro _ _ ⟨rfl, rfl⟩
  repeat (first | refine wZ ?_ | intro b)
  refine l_plain rfl (s_defer rfl rfl ?_)
  repeat (first | refine wZ ?_ | intro b)
  rw [decide_eq_false h0]
  repeat (first | refine wZ ?_ | intro b)
  refine l_plain rfl (s_call rfl rfl (Rsize_b h0 rfl rfl) [0] rfl ?_ ?_)
  · intro v B hR
    exact hR.elim
  · rintro c B ⟨⟨T, v, rfl⟩, rfl⟩
    repeat (first | refine wZ ?_ | intro b)
    refine gl_pan (gl_def [0] rfl (by simp) rfl rfl (wunlock_dct rwWLib rfl rfl rfl rfl) ?_)
    exact gl_p _ ⟨⟨T, v, rfl⟩, rfl⟩ (arr_ent 1 [0] _)
/-- the closure that frees the last level -/
theorem Rfree_d {bb bx0 : Nat} {pv : Value} {ce : List Value} (h1 : ce[12]? = some (.pointer (some ⟨bb, 0, none⟩))) : Dct Tryz.prog 115 #[.pointer (some ⟨bx0, 0, none⟩)] [blk bx0 (cl [.pointer (some ⟨rb, 0, none⟩)] 58), blk rb (cl ce 110), bx bb pv s] [blk bx0 (cl [.pointer (some ⟨rb, 0, none⟩)] 58), blk rb (cl (ce.set 12 (.pointer none)) 110), bx bb pv s] := by
  refine Dct.of Tryz.func115 rfl Tryz.ntmps115 rfl fun m F => ?_
  repeat (first | refine wZ ?_ | intro b)
  refine l_plain rfl ?_
  apply s_val rfl rfl
  · exact r_load rfl rfl (rd_blk 1 rfl h1)
  refine l_plain rfl (s_call rfl rfl xfree_c [2] rfl ?_ (fun _ _ h => h.elim))
  rintro _ _ ⟨rfl, rfl⟩
  repeat (first | refine wZ ?_ | intro b)
  refine l_plain rfl (s_store (i := 2) rfl rfl rfl rfl rfl rfl (by have := (List.getElem?_eq_some_iff.1 h1).1; simpa using this) ?_)
  repeat (first | refine wZ ?_ | intro b)
  exact e_nor0 _ rfl ⟨rfl, rfl⟩ (arr_ent 0 [2, 0, 0] _)
theorem Rsize_1 {bb : Nat} {pv : Value} {cb c : Cn} {d : Nat → Bool} (h0 : tl ≠ 0) {ce : List Value} (h1 : ce[12]? = some (.pointer (some ⟨bb, 0, none⟩))) (h2 : ce[17]? = some (.int .i64 tl)) : Ct Tryz.prog 113 #[.pointer (some ⟨rb, 0, none⟩)] [blk rb (cl ce 110), bf bb pv cb c s d] (fun v B => v = .tuple #[.int .i64 (s : Nat), .nilIface] ∧ B = [blk rb (cl ce 110), bf bb pv cb c s d]) nev :=
  (Rsize_a (R := fun v B => v = .tuple #[.int .i64 (s : Nat), .nilIface] ∧ B = [bf bb pv cb c s d]) (fun v B h => ⟨_, _, h.1⟩) h0 h1 h2 bSize_c).mono (fun v B ⟨B', ⟨h1, h2⟩, h3⟩ => ⟨h1, by rw [h3, h2]⟩) (fun c B ⟨B', h, _⟩ => h.elim)
theorem REnd_1 {bb : Nat} {pv : Value} {cb c : Cn} {d : Nat → Bool} {TH TH2 : List Nat → HP} {ok : Bool} {cp : List Value} (hsz : s ≤ 900000000000)
    (hw : WrC v' TH ok c d) (hwm : ∃ rt u f, v' = .iface rt u ∧ MethP Tryz.prog rt "WriteAt" f) (hck : ok = true → ∀ done : List Nat, done ≠ [] → (∀ j ∈ done, d j = true) → Ct Tryz.prog 25 (.int .i64 (s : Nat) :: cp).toArray [TH done] (fun v B => v = .nilIface ∧ B = [TH2 done]) nev) (hckv : ck = .func (.func 25) #[] cp.toArray) :
    Ct Tryz.prog 100 #[.pointer (some ⟨rb, 0, none⟩)] [rP rb (some ⟨bb, 0, none⟩) ck v' 1 cld, TH [], bf bb pv cb c s d]
    (fun v B => (∃ done : List Nat, done.Nodup ∧ (∀ j, j ∈ done ↔ d j = true) ∧ (ok = true ∨ done = []) ∧ v = .nilIface ∧ B = [rP rb none ck v' 0 cld, if done = [] then TH [] else TH2 done]) ∨ (ok = false ∧ ∃ b, v = permV b ∧ B = [rP rb (some ⟨bb, 0, none⟩) ck v' 0 cld, TH [], bx bb pv s])) nev := by
  subst hckv
  refine Ct.ofD Tryz.func100 rfl Tryz.ntmps100 rfl fun m F => ?_
  unfold rP
  repeat (first | refine wZ ?_ | intro b)
  refine l_plain rfl (s_call rfl rfl (wlock_ct rwWLib rfl rfl rfl rfl) [1] rfl ?_ (fun _ _ h => h.elim))
  rintro _ _ ⟨rfl, rfl⟩
  repeat (first | refine wZ ?_ | intro b)
  refine l_plain rfl (s_defer rfl rfl ?_)
  repeat (first | refine wZ ?_ | intro b)
  refine l_plain rfl (s_call rfl rfl (Rsize_1 (bb := bb) (pv := pv) (cb := cb) (c := c) (s := s) (d := d) (tl := 1) (by decide) rfl rfl) [0, 2] rfl ?_ (fun _ _ h => h.elim))
  rintro _ _ ⟨rfl, rfl⟩
  refine G.ent (arr_ent 0 [1, 0, 0, 0] _) ?_
  refine bf_open fun mb l k hok => ?_
  repeat (first | refine wZ ?_ | intro b)
  refine G.ent (Ent.cons (bf_shut hok)) ?_
  clear hok
  refine l_plain rfl (s_call rfl rfl (dump_c hw hwm hsz) [3, 1] rfl ?_ (fun _ _ h => h.elim))
  rintro _ _ (⟨done, hdn, hdd, hdo, rfl, rfl⟩ | ⟨hok1, pb, rfl, rfl⟩)
  · repeat (first | refine wZ ?_ | intro b)
    refine l_plain rfl ?_
    apply s_val rfl rfl
    · exact RunS.v (r_makeFn rfl)
    refine l_plain rfl (s_defer rfl rfl ?_)
    repeat (first | refine wZ ?_ | intro b)
    cases hd0 : done with
    | nil =>
      subst hd0
      repeat (first | refine wZ ?_ | intro b)
      refine gl_ret (gl_def [3, 2, 1] rfl (by simp) rfl rfl (Rfree_d rfl) ?_)
      refine gl_def [1] rfl (by simp) rfl rfl (wunlock_dct rwWLib rfl rfl rfl rfl) ?_
      exact gl_r1 _ rfl rfl (.inl ⟨[], hdn, hdd, hdo, rfl, by rw [if_pos rfl]⟩) (arr_ent 2 [0, 2] _)
    | cons x xs =>
      have h0 : done ≠ [] := by rw [hd0]; simp
      rw [← hd0]
      rw [decide_eq_false (by rw [hd0, List.length_cons]; omega : ¬ ((done.length : Nat) : Int) = 0)]
      clear hd0
      repeat (first | refine wZ ?_ | intro b)
      refine l_plain rfl (s_callF rfl rfl rfl (hck (hdo.resolve_right h0) done h0 fun j hj => (hdd j).1 hj) [0] rfl ?_ (fun _ _ h => h.elim))
      rintro _ _ ⟨rfl, rfl⟩
      repeat (first | refine wZ ?_ | intro b)
      refine gl_ret (gl_def [3, 2, 1] rfl (by simp) rfl rfl (Rfree_d rfl) ?_)
      refine gl_def [1] rfl (by simp) rfl rfl (wunlock_dct rwWLib rfl rfl rfl rfl) ?_
      exact gl_r1 _ rfl rfl (.inl ⟨done, hdn, hdd, hdo, rfl, by rw [if_neg h0]⟩) (arr_ent 2 [0, 2] _)
  · unfold permV
    repeat (first | refine wZ ?_ | intro b)
    refine gl_ret (gl_def [2] rfl (by simp) rfl rfl (wunlock_dct rwWLib rfl rfl rfl rfl) ?_)
    exact gl_r1 _ rfl rfl (.inr ⟨hok1, pb, rfl, rfl⟩) (arr_ent 1 [0, 0, 0] _)
end
end Go.Proofs.YtfebpbflpdppiaaGreatDoor
namespace Go.Proofs.YtfebpbflpdppiaaGreatDoor
open Go Go.Sl
set_option maxRecDepth 100000
attribute [local irreducible] wpList Code.wp Exit.then Exit.inBlock bodyPost RunS RunV G St Ct Sat Ent At Rd GQ QL wpAny wpOp wpQuiet slP Sl.ex sep
attribute [local irreducible] zf memf pgl rng ov cutC zc mapO rdd bme bf bx
section
variable {rb : Nat} {ck v' : Value} {cld : Bool} {tl : Int} {s : Nat}
theorem REnd_a {bb b0 : Nat} {cb c : Cn} {d : Nat → Bool} {TH TH2 : List Nat → HP} (h0 : 1 < tl ∧ tl ≤ 1000000) (hsz : s ≤ 900000000000)
    (hw : WrC (.iface 107 (.pointer (some ⟨b0, 0, none⟩))) TH true c d) (hwm : ∃ rt u f, Value.iface 107 (.pointer (some ⟨b0, 0, none⟩)) = .iface rt u ∧ MethP Tryz.prog rt "WriteAt" f)
    (htr : ∀ done : List Nat, (∀ j ∈ done, d j = true) → MCt Tryz.prog (.iface 107 (.pointer (some ⟨b0, 0, none⟩))) "Truncate" [.int .i64 (s : Nat)] [TH done] (fun v B => v = .nilIface ∧ B = [TH2 done]) nev) :
    Ct Tryz.prog 100 #[.pointer (some ⟨rb, 0, none⟩)] [rP rb (some ⟨bb, 0, none⟩) ck v' tl cld, TH [], bf bb (.iface 107 (.pointer (some ⟨b0, 0, none⟩))) cb c s d]
    (fun v B => ∃ done : List Nat, done.Nodup ∧ (∀ j, j ∈ done ↔ d j = true) ∧ v = .nilIface ∧ B = [rP rb (some ⟨b0, 0, none⟩) ck v' (tl - 1) cld, TH2 done]) nev := by
  refine Ct.ofD Tryz.func100 rfl Tryz.ntmps100 rfl fun m F => ?_
  unfold rP
  repeat (first | refine wZ ?_ | intro b)
  refine l_plain rfl (s_call rfl rfl (wlock_ct rwWLib rfl rfl rfl rfl) [1] rfl ?_ (fun _ _ h => h.elim))
  rintro _ _ ⟨rfl, rfl⟩
  repeat (first | refine wZ ?_ | intro b)
  refine l_plain rfl (s_defer rfl rfl ?_)
  repeat (first | refine wZ ?_ | intro b)
  rw [decide_eq_false (by omega : ¬ tl = 0)]
  repeat (first | refine wZ ?_ | intro b)
  refine l_plain rfl (s_call rfl rfl (Rsize_1 (bb := bb) (cb := cb) (c := c) (s := s) (d := d) (tl := tl) (by omega) rfl rfl) [0, 2] rfl ?_ (fun _ _ h => h.elim))
  rintro _ _ ⟨rfl, rfl⟩
  refine G.ent (arr_ent 0 [1, 0, 0, 0] _) ?_
  refine bf_open fun mb l k hok => ?_
  repeat (first | refine wZ ?_ | intro b)
  rw [decide_eq_false (by omega : ¬ tl - 1 = 0)]
  repeat (first | refine wZ ?_ | intro b)
  refine G.ent (Ent.cons (bf_shut hok)) ?_
  clear hok
  refine l_plain rfl (s_call rfl rfl (dump_c hw hwm hsz) [3, 1] rfl ?_ (fun _ _ h => h.elim))
  rintro _ _ (⟨done, hdn, hdd, hdo, rfl, rfl⟩ | ⟨hok1, _⟩)
  rotate_left
  · cases hok1
  repeat (first | refine wZ ?_ | intro b)
  rw [decide_eq_false (by omega : ¬ tl - 1 = 0)]
  repeat (first | refine wZ ?_ | intro b)
  refine l_plain rfl (s_call rfl rfl xfree_c [1] rfl ?_ (fun _ _ h => h.elim))
  rintro _ _ ⟨rfl, rfl⟩
  repeat (first | refine wY ?_ | intro b)
  refine h_any [blk b (cl [.pointer (some ⟨rb, 0, none⟩)] 58)] 6 rfl ?_
  have hE : Ent (bx bb (.iface 107 (.pointer (some ⟨b0, 0, none⟩))) s :: TH done :: blk rb (cl ((wlk (rcells (some ⟨bb, 0, none⟩) ck v' tl cld) (0 + 0)).set (0 + 17) (.int .i64 (tl - 1))) 110) :: blk b (cl [.pointer (some ⟨rb, 0, none⟩)] 58) :: F) [blk b (cl [.pointer (some ⟨rb, 0, none⟩)] 58)] := Ent.trans (arr_ent 0 [3] _) (Ent.left [_] _)
  refine h_take (by assumption) 0 rfl (by kernel_rfl) (by kernel_rfl) (by kernel_rfl) rfl rfl rfl pQ rV ?_
  refine h_take (by assumption) 1 rfl (by kernel_rfl) (by kernel_rfl) (by kernel_rfl) rfl rfl rfl pQ rV ?_
  refine h_take hE 2 rfl (by kernel_rfl) (by kernel_rfl) (by kernel_rfl) rfl rfl rfl pQ (RunS.v (r_asIs rfl rfl)) ?_
  refine h_take (by assumption) 3 rfl (by kernel_rfl) (by kernel_rfl) (by kernel_rfl) rfl rfl rfl pQ rV ?_
  refine h_take (by assumption) 4 rfl (by kernel_rfl) (by kernel_rfl) (by kernel_rfl) rfl rfl rfl pQ rV ?_
  refine h_one 5 (by kernel_rfl) rfl rfl ?_
  refine s_store (i := 2) rfl rfl rfl rfl rfl rfl (by simp [wlk, rcells]) ?_
  refine h_then (Ent.trans (arr_ent 0 [3] _) (Ent.left [_] _)) ?_
  refine h_done (by kernel_rfl) ?_
  refine q_then_n ?_
  repeat (first | refine wZ ?_ | intro b)
  refine l_plain rfl (s_call rfl rfl xSize_c [1] rfl ?_ (fun _ _ h => h.elim))
  rintro _ _ ⟨rfl, rfl⟩
  repeat (first | refine wZ ?_ | intro b)
  refine l_plain rfl (s_invokeM rfl rfl rfl (htr done fun j hj => (hdd j).1 hj) [2] rfl ?_ (fun _ _ h => h.elim))
  rintro _ _ ⟨rfl, rfl⟩
  repeat (first | refine wZ ?_ | intro b)
  refine gl_ret (gl_def [2] rfl (by simp) rfl rfl (wunlock_dct rwWLib rfl rfl rfl rfl) ?_)
  exact gl_r1 _ rfl rfl ⟨done, hdn, hdd, rfl, rfl⟩ (arr_ent 2 [0, 0] _)
end
end Go.Proofs.YtfebpbflpdppiaaGreatDoor
namespace Go.Proofs.YtfebpbflpdppiaaGreatDoor
open Go Go.Sl
set_option maxRecDepth 100000
section
variable {P : Program} {f : FuncId} {args : Array Value} {L L' : List HP} {R R' : Value → List HP → Prop} {E E' : List PanicEntry → List HP → Prop} {v : Value} {n : String} {vs : List Value}
theorem _root_.Go.Sl.Ct.conv (h : Ct P f args L R E) (e1 : ∀ F, Ent (L' ++ F) (L ++ F)) (hR : ∀ v B, R v B → ∃ B', R' v B' ∧ ∀ F, Ent (B ++ F) (B' ++ F)) (hE : ∀ c B, E c B → ∃ B', E' c B' ∧ ∀ F, Ent (B ++ F) (B' ++ F)) : Ct P f args L' R' E' := fun m F w hw =>
  (h m F w (hw.ent (e1 F))).mono fun e w' he => by
    cases e with
    | returned v => exact let ⟨B, h1, h2⟩ := he; let ⟨B', h3, h4⟩ := hR _ _ h1; ⟨B', h3, h2.ent (h4 F)⟩
    | panicked c => exact let ⟨B, h1, h2⟩ := he; let ⟨B', h3, h4⟩ := hE _ _ h1; ⟨B', h3, h2.ent (h4 F)⟩
    | outgrown => exact he
theorem _root_.Go.Sl.Ct.frame (h : Ct P f args L R E) (G : List HP) : Ct P f args (L ++ G) (fun v B => ∃ B', R v B' ∧ B = B' ++ G) (fun c B => ∃ B', E c B' ∧ B = B' ++ G) := fun m F w hw =>
  (h m (G ++ F) w (by rw [← List.append_assoc]; exact hw)).mono fun e w' he => by
    cases e with
    | returned v => exact let ⟨B, h1, h2⟩ := he; ⟨_, ⟨B, h1, rfl⟩, by rw [List.append_assoc]; exact h2⟩
    | panicked c => exact let ⟨B, h1, h2⟩ := he; ⟨_, ⟨B, h1, rfl⟩, by rw [List.append_assoc]; exact h2⟩
    | outgrown => exact he
theorem _root_.Go.Sl.Ct.exE {α : Type} {A : α → HP} (h : ∀ x, Ct P f args (A x :: L) R E) : Ct P f args (Sl.ex A :: L) R E := fun m F w hw => by
  obtain ⟨x, hx⟩ := hw.2.2.2.ex
  exact h x m F w ⟨hw.1, hw.2.1, hw.2.2.1, hx⟩
theorem _root_.Go.Sl.MCt.map (h : MCt P v n vs L R E) (g : ∀ f args, Ct P f args L R E → Ct P f args L' R' E') : MCt P v n vs L' R' E' := by
  obtain ⟨rt, u, f, e, h1, h2, h3⟩ := h
  exact ⟨rt, u, f, e, h1, h2, g _ _ h3⟩
theorem _root_.Go.Sl.MCt.conv (h : MCt P v n vs L R E) (e1 : ∀ F, Ent (L' ++ F) (L ++ F)) (hR : ∀ v B, R v B → ∃ B', R' v B' ∧ ∀ F, Ent (B ++ F) (B' ++ F)) (hE : ∀ c B, E c B → ∃ B', E' c B' ∧ ∀ F, Ent (B ++ F) (B' ++ F)) : MCt P v n vs L' R' E' :=
  h.map fun _ _ h => h.conv e1 hR hE
theorem _root_.Go.Sl.MCt.pack (h : MCt P v n vs L R E) : MCt P v n vs [sep L] (fun x B => ∃ B', R x B' ∧ B = [sep B']) (fun c B => ∃ B', E c B' ∧ B = [sep B']) :=
  h.conv (fun F => sep_open L F) (fun _v B hR => ⟨_, ⟨B, hR, rfl⟩, fun F => sep_shut B F⟩) (fun _v B hR => ⟨_, ⟨B, hR, rfl⟩, fun F => sep_shut B F⟩)
theorem _root_.Go.Sl.MCt.mono (h : MCt P v n vs L R E) (hR : ∀ v B, R v B → R' v B) (hE : ∀ c B, E c B → E' c B) : MCt P v n vs L R' E' := h.map fun _ _ h => h.mono hR hE
end
/-- no panic, packed -/
theorem nevP {c : List PanicEntry} {P : List HP → Prop} : (∃ B', nev c B' ∧ P B') → False := fun ⟨_, h, _⟩ => h.elim
/-- a filer beneath -/
structure BF (glb : HP) (ea : Addr) (v : Value) (hp : Cn → Nat → HP) (T : Nat) (ro : Bool) : Prop where
  name : ∀ c s, MCt Tryz.prog v "Name" [] [hp c s] (fun x B => x = .string nameS ∧ B = [hp c s]) nev
  size : ∀ c s, s ≤ 1000000000000 → MCt Tryz.prog v "Size" [] [hp c s] (fun x B => x = .tuple #[.int .i64 (s - T : Nat), .nilIface] ∧ B = [hp c s]) nev
  sync : ∀ c s, MCt Tryz.prog v "Sync" [] [hp c s] (fun x B => x = .nilIface ∧ B = [hp c s]) nev
  close : ∀ c s, MCt Tryz.prog v "Close" [] [hp c s] (fun x B => (isErr ea 0 x ∨ isErr ea 3 x) ∧ B = [hp c s]) nev
  read : ∀ c s db e (old : List UInt8) k off, s ≤ 1000000000000 → old.length = k → T + off + k ≤ 1000000000000 →
    MCt Tryz.prog v "ReadAt" [.slice (some ⟨db, 0, none⟩) k k, .int .i64 (off : Nat)] [glb, hp c s, blk db (cl (u8s old) e)]
      (fun x B => x = .tuple #[.int .i64 (min k (s - (T + off)) : Nat), if k ≤ s - (T + off) then .nilIface else eofV ea] ∧ B = [glb, hp c s, blk db (cl (u8s (rdd old c (T + off) (min k (s - (T + off))))) e)]) nev
  readN : ∀ c s sl (off : Int), off < 0 → MCt Tryz.prog v "ReadAt" [sl, .int .i64 off] [hp c s] (fun x B => ∃ b, x = .tuple #[.int .i64 0, invV b] ∧ B = [hp c s]) nev
  write : ro = false → ∀ c s A (bs : List UInt8) a k cap off, Src [A] 1 (.slice a k cap) k (u8s bs) → k ≤ cap → T + off + k ≤ 1000000000000 → s ≤ 1000000000000 →
    MCt Tryz.prog v "WriteAt" [.slice a k cap, .int .i64 (off : Nat)] [hp c s, A] (fun x B => x = .tuple #[.int .i64 (k : Nat), .nilIface] ∧ B = [hp (ov c (T + off) bs) (if k = 0 then s else max s (T + off + k)), A]) nev
  writeP : ro = true → ∀ c s sl (off : Nat), T + off ≤ 1000000000000 → MCt Tryz.prog v "WriteAt" [sl, .int .i64 (off : Nat)] [hp c s] (fun x B => ∃ b, x = .tuple #[.int .i64 0, permV b] ∧ B = [hp c s]) nev
  writeN : ∀ c s sl (off : Int), off < 0 → MCt Tryz.prog v "WriteAt" [sl, .int .i64 off] [hp c s] (fun x B => ∃ b, (x = .tuple #[.int .i64 0, invV b] ∨ x = .tuple #[.int .i64 0, permV b]) ∧ B = [hp c s]) nev
  trunc : ro = false → ∀ c s (n : Nat), T + n ≤ 1000000000000 → s ≤ 1000000000000 → MCt Tryz.prog v "Truncate" [.int .i64 (n : Nat)] [hp c s] (fun x B => x = .nilIface ∧ B = [hp (cutC c (T + n)) (T + n)]) nev
  truncN : ro = false → ∀ c s (n : Int), n < 0 → -1000000000000000 ≤ n → s ≤ 1000000000000 → MCt Tryz.prog v "Truncate" [.int .i64 n] [hp c s]
    (fun x B => (x = .nilIface ∧ 0 ≤ (T : Int) + n ∧ B = [hp (cutC c ((T : Int) + n).toNat) ((T : Int) + n).toNat]) ∨ ((T : Int) + n < 0 ∧ ∃ b, x = invV b ∧ B = [hp c s])) nev
  truncP : ro = true → ∀ c s (n : Int), -1000000000000000 ≤ n → (T : Int) + n ≤ 1000000000000000 → MCt Tryz.prog v "Truncate" [.int .i64 n] [hp c s] (fun x B => ∃ b, x = permV b ∧ B = [hp c s]) nev
  begin_ : ro = false → ∀ c s, MCt Tryz.prog v "BeginUpdate" [] [hp c s] (fun x B => (isErr ea 0 x ∨ isErr ea 3 x) ∧ B = [hp c s]) nev
  end_ : ro = false → ∀ c s, MCt Tryz.prog v "EndUpdate" [] [hp c s] (fun x B => (isErr ea 0 x ∨ isErr ea 3 x) ∧ B = [hp c s]) nev
  roll : ro = false → ∀ c s, MCt Tryz.prog v "Rollback" [] [hp c s] (fun x B => (isErr ea 0 x ∨ isErr ea 3 x) ∧ B = [hp c s]) nev
  punch : ro = false → ∀ c s (a b : Int), -1000000000000000 ≤ a → (T : Int) + a ≤ 1000000000000000 → MCt Tryz.prog v "PunchHole" [.int .i64 a, .int .i64 b] [hp c s] (fun x B => (isErr ea 0 x ∨ isErr ea 3 x) ∧ B = [hp c s]) nev
attribute [local irreducible] wpList Code.wp Exit.then Exit.inBlock bodyPost RunS RunV G St Ct Sat Ent At Rd GQ QL wpAny wpOp wpQuiet slP Sl.ex sep
attribute [local irreducible] zf memf pgl rng ov cutC zc mapO rdd bme bf bx
section
variable {glb : HP} {ea : Addr}
theorem one_of {P : Program} {f : FuncId} {args : Array Value} {x0 : Value} {X : HP} (h : Ct P f args [] (fun v B => v = x0 ∧ B = []) nev) : Ct P f args [X] (fun v B => v = x0 ∧ B = [X]) nev :=
  (h.frame [X]).mono (fun _ _ ⟨_, ⟨h1, h2⟩, h3⟩ => ⟨h1, by rw [h3, h2]; rfl⟩) (fun _ _ ⟨_, h1, _⟩ => h1.elim)
theorem bf_mem (hglb : Rd [glb] ⟨1, 0, none⟩ (eofV ea)) (mb : Nat) : BF glb ea (.iface 47 (.pointer (some ⟨mb, 0, none⟩))) (memf mb) 0 false where
  name := fun c s => MCt.of (one_of (MName_c _))
  size := fun c s _ => MCt.of (by rw [Nat.sub_zero]; exact MSize_c)
  sync := fun c s => MCt.of (one_of (MSync_c _))
  close := fun c s => MCt.of (MClose_c ea)
  read := fun c s db e old k off hs hk hb => MCt.of (by
    rw [Nat.zero_add] at hb ⊢
    exact MReadAt_c hglb db e old k off hk hb hs)
  readN := fun c s sl off h => MCt.of (MReadAt_n (A := []) sl off h)
  write := fun _ c s A bs a k cap off hs hc hb hsz => MCt.of (by
    rw [Nat.zero_add] at hb ⊢
    exact MWriteAt_c bs a k cap off hs hc hb hsz)
  writeP := fun h => by cases h
  writeN := fun c s sl off h => MCt.of ((MWriteAt_n (A := []) sl off h).mono (fun _ _ ⟨b, h1, h2⟩ => ⟨b, .inl h1, h2⟩) (fun _ _ h => h))
  trunc := fun _ c s n hn hs => MCt.of (by
    rw [Nat.zero_add] at hn ⊢
    exact MTruncate_c n hn hs)
  truncN := fun _ c s n hn _ hs => MCt.of ((MTruncate_n n hn).mono (fun _ _ ⟨b, h1, h2⟩ => .inr ⟨by omega, b, h1, h2⟩) (fun _ _ h => h))
  truncP := fun h => by cases h
  begin_ := fun _ c s => MCt.of (MBegin_c.mono (fun _ _ ⟨h1, h2⟩ => ⟨.inl h1, h2⟩) (fun _ _ h => h))
  end_ := fun _ c s => MCt.of (MEnd_c ea)
  roll := fun _ c s => MCt.of ((one_of (MRoll_c _)).mono (fun _ _ ⟨h1, h2⟩ => ⟨.inl h1, h2⟩) (fun _ _ h => h))
  punch := fun _ c s a b _ _ => MCt.of ((one_of (MPunch_c _ _ _)).mono (fun _ _ ⟨h1, h2⟩ => ⟨.inl h1, h2⟩) (fun _ _ h => h))
end
end Go.Proofs.YtfebpbflpdppiaaGreatDoor
namespace Go.Proofs.YtfebpbflpdppiaaGreatDoor
open Go Go.Sl
set_option maxRecDepth 100000
attribute [local irreducible] wpList Code.wp Exit.then Exit.inBlock bodyPost RunS RunV G St Ct Sat Ent At Rd GQ QL wpAny wpOp wpQuiet slP Sl.ex sep
attribute [local irreducible] zf memf pgl rng ov cutC zc mapO rdd bme bf bx
section
variable {rb : Nat} {bp : Option Addr} {ck v' : Value} {cld : Bool} {A : HP} {tl : Int} {s : Nat} {ea : Addr}
theorem RClose_t (h : MCt Tryz.prog v' "Name" [] [A] (fun v B => v = .string nameS ∧ B = [A]) nev) : Ct Tryz.prog 99 #[.pointer (some ⟨rb, 0, none⟩)] [rP rb bp ck v' tl true, A] (fun v B => ∃ b, v = permV b ∧ B = [rP rb bp ck v' tl true, A]) nev := by
  refine Ct.ofD Tryz.func99 rfl Tryz.ntmps99 rfl fun m F => ?_
  unfold rP
  repeat (first | refine wZ ?_ | intro b)
  refine l_plain rfl (s_call rfl rfl (wlock_ct rwWLib rfl rfl rfl rfl) [0] rfl ?_ (fun _ _ h => h.elim))
  rintro _ _ ⟨rfl, rfl⟩
  repeat (first | refine wZ ?_ | intro b)
  refine l_plain rfl (s_defer rfl rfl ?_)
  repeat (first | refine wZ ?_ | intro b)
  refine l_plain rfl (s_invokeM rfl rfl rfl h [1] rfl ?_ (fun _ _ h => h.elim))
  rintro _ _ ⟨rfl, rfl⟩
  refine l_plain rfl ?_
  apply s_val rfl rfl
  · exact RunS.v (r_strAdd rfl rfl (Nat.le_of_ble_eq_true rfl))
  generalize nameS ++ _ = str
  refine l_plain rfl ?_
  apply s_val rfl rfl
  · exact RunS.v (r_build (cells := #[.string str]) rfl (by kernel_rfl))
  repeat (first | refine wZ ?_ | intro b)
  refine gl_ret (gl_def [2] rfl (by simp) rfl rfl (wunlock_dct rwWLib rfl rfl rfl rfl) ?_)
  exact gl_r1 _ rfl rfl ⟨b, rfl, rfl⟩ (arr_ent 1 [0, 1] _)
theorem RClose_f (hn : MCt Tryz.prog v' "Name" [] [A] (fun v B => v = .string nameS ∧ B = [A]) nev) (h : MCt Tryz.prog v' "Close" [] [A] (fun v B => (isErr ea 0 v ∨ isErr ea 3 v) ∧ B = [A]) nev) : Ct Tryz.prog 99 #[.pointer (some ⟨rb, 0, none⟩)] [rP rb none ck v' tl false, A] (fun v B => (isErr ea 0 v ∨ isErr ea 3 v) ∧ B = [rP rb none ck v' tl true, A]) nev := by
  refine Ct.ofD Tryz.func99 rfl Tryz.ntmps99 rfl fun m F => ?_
  unfold rP
  repeat (first | refine wZ ?_ | intro b)
  refine l_plain rfl (s_call rfl rfl (wlock_ct rwWLib rfl rfl rfl rfl) [0] rfl ?_ (fun _ _ h => h.elim))
  rintro _ _ ⟨rfl, rfl⟩
  repeat (first | refine wZ ?_ | intro b)
  refine l_plain rfl (s_defer rfl rfl ?_)
  repeat (first | refine wZ ?_ | intro b)
  refine l_plain rfl (s_invokeM rfl rfl rfl h [1] rfl ?_ (fun _ _ h => h.elim))
  rintro v _ ⟨hv, rfl⟩
  rcases hv with rfl | ⟨b, rfl⟩
  · repeat (first | refine wZ ?_ | intro b)
    refine c_mid (α := Value) (fun y => [(0, .pointer (some ⟨rb, 0, none⟩)), (2, y)]) (fun _ => A :: blk rb (cl ((wlk (rcells none ck v' tl false) (0 + 0)).set (0 + 18) (.bool true)) 110) :: F) (fun y => isErr ea 0 y ∨ isErr ea 3 y) ?_ ?_
    · refine c_cond rfl (fun h => ?_) (fun h => ?_)
      · repeat (first | refine wZ ?_ | intro b)
        refine l_plain rfl (s_invokeM rfl rfl rfl hn [0] rfl ?_ (fun _ _ h => h.elim))
        rintro _ _ ⟨rfl, rfl⟩
        refine l_plain rfl ?_
        apply s_val rfl rfl
        · exact RunS.v (r_strAdd rfl rfl (Nat.le_of_ble_eq_true rfl))
        generalize nameS ++ _ = str
        refine l_plain rfl ?_
        apply s_val rfl rfl
        · exact RunS.v (r_build (cells := #[.string str]) rfl (by kernel_rfl))
        repeat (first | refine wZ ?_ | intro b)
        exact at_intro _ (.inr ⟨_, rfl⟩) ⟨rfl, rfl, trivial⟩ Ent.drop
      · repeat (first | refine wZ ?_ | intro b)
        exact at_intro .nilIface (.inl rfl) ⟨rfl, rfl, trivial⟩ (Ent.refl _)
    intro y hy
    repeat (first | refine wZ ?_ | intro b)
    refine gl_ret (gl_def [1] rfl (by simp) rfl rfl (wunlock_dct rwWLib rfl rfl rfl rfl) ?_)
    exact gl_r1 _ rfl rfl ⟨hy, rfl⟩ (Ent.refl _)
  · unfold permV
    repeat (first | refine wZ ?_ | intro b)
    refine gl_ret (gl_def [1] rfl (by simp) rfl rfl (wunlock_dct rwWLib rfl rfl rfl rfl) ?_)
    exact gl_r1 _ rfl rfl ⟨.inr ⟨b, rfl⟩, rfl⟩ (Ent.refl _)
theorem RClose_d {bb : Nat} {pv : Value} {Y : HP} (hY : ∀ F, Ent (Y :: F) (bx bb pv s :: F)) (hn : MCt Tryz.prog v' "Name" [] [A] (fun v B => v = .string nameS ∧ B = [A]) nev) (h : MCt Tryz.prog v' "Close" [] [A] (fun v B => (isErr ea 0 v ∨ isErr ea 3 v) ∧ B = [A]) nev) : Ct Tryz.prog 99 #[.pointer (some ⟨rb, 0, none⟩)] [rP rb (some ⟨bb, 0, none⟩) ck v' tl false, A, Y] (fun v B => (isErr ea 0 v ∨ isErr ea 3 v) ∧ (B = [rP rb none ck v' tl true, A, bx bb pv s] ∨ B = [rP rb (some ⟨bb, 0, none⟩) ck v' tl true, A, Y])) nev := by
  refine Ct.ofD Tryz.func99 rfl Tryz.ntmps99 rfl fun m F => ?_
  unfold rP
  repeat (first | refine wZ ?_ | intro b)
  refine l_plain rfl (s_call rfl rfl (wlock_ct rwWLib rfl rfl rfl rfl) [0] rfl ?_ (fun _ _ h => h.elim))
  rintro _ _ ⟨rfl, rfl⟩
  repeat (first | refine wZ ?_ | intro b)
  refine l_plain rfl (s_defer rfl rfl ?_)
  repeat (first | refine wZ ?_ | intro b)
  refine l_plain rfl (s_invokeM rfl rfl rfl h [1] rfl ?_ (fun _ _ h => h.elim))
  rintro v _ ⟨hv, rfl⟩
  rcases hv with rfl | ⟨b, rfl⟩
  · refine G.ent (Ent.append [A, _] (hY F)) ?_
    repeat (first | refine wZ ?_ | intro b)
    refine c_mid (α := Value) (fun y => [(0, .pointer (some ⟨rb, 0, none⟩)), (2, y)]) (fun _ => A :: blk rb (cl ((wlk (rcells (some ⟨bb, 0, none⟩) ck v' tl false) (0 + 0)).set (0 + 18) (.bool true)) 110) :: bx bb pv s :: F) (fun y => isErr ea 0 y ∨ isErr ea 3 y) ?_ ?_
    · refine c_cond rfl (fun h => ?_) (fun h => ?_)
      · repeat (first | refine wZ ?_ | intro b)
        refine l_plain rfl (s_invokeM rfl rfl rfl hn [0] rfl ?_ (fun _ _ h => h.elim))
        rintro _ _ ⟨rfl, rfl⟩
        refine l_plain rfl ?_
        apply s_val rfl rfl
        · exact RunS.v (r_strAdd rfl rfl (Nat.le_of_ble_eq_true rfl))
        generalize nameS ++ _ = str
        refine l_plain rfl ?_
        apply s_val rfl rfl
        · exact RunS.v (r_build (cells := #[.string str]) rfl (by kernel_rfl))
        repeat (first | refine wZ ?_ | intro b)
        exact at_intro _ (.inr ⟨_, rfl⟩) ⟨rfl, rfl, trivial⟩ Ent.drop
      · repeat (first | refine wZ ?_ | intro b)
        exact at_intro .nilIface (.inl rfl) ⟨rfl, rfl, trivial⟩ (Ent.refl _)
    intro y hy
    repeat (first | refine wZ ?_ | intro b)
    refine l_plain rfl (s_call rfl rfl xfree_c [2] rfl ?_ (fun _ _ h => h.elim))
    rintro _ _ ⟨rfl, rfl⟩
    repeat (first | refine wZ ?_ | intro b)
    refine gl_ret (gl_def [0] rfl (by simp) rfl rfl (wunlock_dct rwWLib rfl rfl rfl rfl) ?_)
    exact gl_r1 _ rfl rfl ⟨hy, .inl rfl⟩ (arr_ent 0 [0, 1, 0] _)
  · unfold permV
    repeat (first | refine wZ ?_ | intro b)
    refine gl_ret (gl_def [1] rfl (by simp) rfl rfl (wunlock_dct rwWLib rfl rfl rfl rfl) ?_)
    exact gl_r1 _ rfl rfl ⟨.inr ⟨b, rfl⟩, .inr rfl⟩ (Ent.refl _)
theorem RPunch_b {off n : Nat} (h0 : tl ≠ 0) (hb : off ≤ 1000000000000 ∧ n ≤ 1000000000000) : Ct Tryz.prog 102 #[.pointer (some ⟨rb, 0, none⟩), .int .i64 (off : Nat), .int .i64 (n : Nat)] [rP rb none ck v' tl cld] none_ (pnE [rP rb none ck v' tl cld]) := by
  refine Ct.ofD Tryz.func102 rfl Tryz.ntmps102 rfl fun m F => ?_
  unfold rP
  repeat (first | refine wZ ?_ | intro b)
  refine l_plain rfl (s_call rfl rfl (wlock_ct rwWLib rfl rfl rfl rfl) [0] rfl ?_ (fun _ _ h => h.elim))
  rintro _ _ ⟨rfl, rfl⟩
  repeat (first | refine wZ ?_ | intro b)
  refine l_plain rfl (s_defer rfl rfl ?_)
  repeat (first | refine wZ ?_ | intro b)
  rw [decide_eq_false h0]
  repeat (first | refine wZ ?_ | intro b)
  rw [decide_eq_false (by omega : ¬ ((off : Nat) : Int) < 0)]
  repeat (first | refine wZ ?_ | intro b)
  rw [decide_eq_false (by omega : ¬ ((n : Nat) : Int) < 0)]
  repeat (first | refine wZ ?_ | intro b)
  refine l_yes rfl rfl rfl (s_nilPan rfl fun T v => ?_)
  repeat (first | refine wZ ?_ | intro b)
  refine gl_pan (gl_def [0] rfl (by simp) rfl rfl (wunlock_dct rwWLib rfl rfl rfl rfl) ?_)
  exact gl_p _ ⟨⟨T, v, rfl⟩, rfl⟩ (Ent.refl _)
theorem RPunch_c {bb off n : Nat} {pv : Value} {cb c : Cn} {d : Nat → Bool} (h0 : tl ≠ 0) (hb : off ≤ 1000000000000 ∧ n ≤ 1000000000000) (hsz : s ≤ 900000000000) (h : MCt Tryz.prog v' "Name" [] [A] (fun v B => v = .string nameS ∧ B = [A]) nev) : Ct Tryz.prog 102 #[.pointer (some ⟨rb, 0, none⟩), .int .i64 (off : Nat), .int .i64 (n : Nat)] [rP rb (some ⟨bb, 0, none⟩) ck v' tl cld, A, bf bb pv cb c s d]
    (fun v B => (isErr ea 0 v ∨ isErr ea 2 v) ∧ ∃ c' d', B = [rP rb (some ⟨bb, 0, none⟩) ck v' tl cld, A, bf bb pv cb c' s d']) nev := by
  refine Ct.ofD Tryz.func102 rfl Tryz.ntmps102 rfl fun m F => ?_
  unfold rP
  repeat (first | refine wZ ?_ | intro b)
  refine l_plain rfl (s_call rfl rfl (wlock_ct rwWLib rfl rfl rfl rfl) [0] rfl ?_ (fun _ _ h => h.elim))
  rintro _ _ ⟨rfl, rfl⟩
  repeat (first | refine wZ ?_ | intro b)
  refine l_plain rfl (s_defer rfl rfl ?_)
  repeat (first | refine wZ ?_ | intro b)
  rw [decide_eq_false h0]
  repeat (first | refine wZ ?_ | intro b)
  rw [decide_eq_false (by omega : ¬ ((off : Nat) : Int) < 0)]
  repeat (first | refine wZ ?_ | intro b)
  rw [decide_eq_false (by omega : ¬ ((n : Nat) : Int) < 0)]
  refine G.ent (arr_ent 0 [2, 0, 0] _) ?_
  refine bf_open fun mb l k hok => ?_
  repeat (first | refine wZ ?_ | intro b)
  refine c_cond rfl (fun h1 => ?_) (fun h1 => ?_)
  · repeat (first | refine wZ ?_ | intro b)
    refine l_plain rfl (s_invokeM rfl rfl rfl h [4] rfl ?_ (fun _ _ h => h.elim))
    rintro _ _ ⟨rfl, rfl⟩
    repeat (first | refine wZ ?_ | intro b)
    refine l_plain rfl ?_
    apply s_val rfl rfl
    · exact RunS.v (r_strAdd rfl rfl (Nat.le_of_ble_eq_true rfl))
    generalize nameS ++ _ = str
    repeat (first | refine wZ ?_ | intro b)
    refine l_plain rfl ?_
    apply s_val rfl rfl
    · exact RunS.v (r_build (cells := #[.string str, .iface 2 (.int .i64 (n : Nat))]) rfl (by kernel_rfl))
    repeat (first | refine wZ ?_ | intro b)
    refine gl_ret (gl_def [5] rfl (by simp) rfl rfl (wunlock_dct rwWLib rfl rfl rfl rfl) ?_)
    exact gl_r1 _ rfl rfl ⟨.inr ⟨b, rfl⟩, c, d, rfl⟩ ((arr_ent 1 [0, 1, 1, 1, 1] _).trans (Ent.cons (Ent.cons (bf_shut hok))))
  · have h1 := of_decide_eq_false h1
    repeat (first | refine wZ ?_ | intro b)
    refine G.ent (bf_shut hok) ?_
    refine l_plain rfl (s_call rfl rfl (bPunch_c off n (by omega) hsz) [0] rfl ?_ (fun _ _ h => h.elim))
    rintro _ _ ⟨c', d', rfl, rfl⟩
    repeat (first | refine wZ ?_ | intro b)
    refine gl_ret (gl_def [1] rfl (by simp) rfl rfl (wunlock_dct rwWLib rfl rfl rfl rfl) ?_)
    exact gl_r1 _ rfl rfl ⟨.inl rfl, c', d', rfl⟩ (arr_ent 0 [0, 1, 0] _)
end
end Go.Proofs.YtfebpbflpdppiaaGreatDoor
