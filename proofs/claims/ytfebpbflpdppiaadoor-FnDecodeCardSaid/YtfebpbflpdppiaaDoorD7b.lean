/- Walks over what goes through a list of scalars: scalars, Encodes, specScalars. -/
import Derived.Test.YtfebpbflpdppiaaDoorD7
namespace Go.Proofs.YtfebpbflpdppiaaDoor
open Go Go.Sl
set_option maxRecDepth 100000
attribute [local irreducible] wpList Code.wp Exit.then Exit.inBlock bodyPost RunS RunV G St Ct Sat Ent At Rd GQ QL wpAny wpOp wpQuiet slP Sl.ex sep
def zero6 : List Value := [.string ByteArray.empty, .int .i64 0, .int .u64 0, .int .u64 0, .int .u64 0, .string ByteArray.empty]
theorem spl6 (s : Sc) : spl zero6 0 (scL s) = scL s := rfl
theorem scL_kS (s : Sc) : (scL s)[5]? = some (.string ⟨(kS s).toArray⟩) := rfl
attribute [local irreducible] scL
/-- the head of a round: element i is loaded -/
theorem scs_at {l : List Sc} {i : Nat} {s : Sc} (h : l[i]? = some s) {L R : List HP} {sb c : Nat} {j : Nat} (hj : takeAt j L = some (slP (.slice (some ⟨sb, 0, none⟩) l.length c) 36 6 (l.flatMap scL), R)) : RdN L sb (i * 6) (scL s) := by
  have := (rdn_sl j hj).part (i * 6) 6
  rwa [fm_get h] at this
theorem scs_some {n : Nat} {ds : List Deferred} {σ : Env} {m : Amb} {L : List HP} {Φ : Act → World → Prop} {a : Option Addr} {c i : Nat} {l : List Sc} (hi : i < l.length)
    (h : ∀ sb s, a = some ⟨sb, 0, none⟩ → l[i]? = some s → G n ds σ m (slP (.slice (some ⟨sb, 0, none⟩) l.length c) 36 6 (l.flatMap scL) :: L) Φ) : G n ds σ m (slP (.slice a l.length c) 36 6 (l.flatMap scL) :: L) Φ := by
  refine slP_some (by intro e; have := congrArg List.length e; rw [scLs_len] at this; simp at this; omega) fun sb hsb _ _ _ => ?_
  exact h sb l[i] hsb (by simp [hi])
theorem scalars_c (a : Option Addr) (c : Nat) (l : List Sc) : Ct Tryd.prog 16 #[.slice a l.length c] [slP (.slice a l.length c) 36 6 (l.flatMap scL)] (fun v B => v = .bool true ∧ B = [slP (.slice a l.length c) 36 6 (l.flatMap scL)]) nev := by
  refine Ct.of Tryd.func16 rfl Tryd.ntmps16 rfl fun m F => ?_
  refine slP_len fun _ hlc hcm => ?_
  have hml : maxLen ≤ 9223372036854775807 := by unfold maxLen; omega
  repeat (first | refine wW ?_ | intro b)
  refine c_loop (α := Nat) (fun i => [(5, .slice a l.length c), (6, .int .i64 (l.length : Nat)), (7, .int .i64 (i : Nat))]) (fun _ => slP (.slice a l.length c) 36 6 (l.flatMap scL) :: F) (fun i => i ≤ l.length) (fun i => l.length - i) 0 (Nat.zero_le _) ⟨rfl, rfl, rfl, trivial⟩ (Ent.refl _) ?_
  intro i hi
  repeat (first | refine wW ?_ | intro b)
  refine c_cond rfl (fun h => ?_) (fun h => ?_)
  · have h := of_decide_eq_true h
    refine scs_some (i := i) (by omega) fun sb s hsb hs => ?_
    subst hsb
    repeat (first | refine wW ?_ | intro b)
    refine l_plain rfl ?_
    apply s_val rfl rfl
    · exact RunS.v (r_index (i := i) rfl rfl rfl (by omega))
    rw [Nat.zero_add]
    refine l_plain rfl ?_
    apply s_val rfl rfl
    · exact r_loadN rfl rfl (scL_len s) (scs_at hs (j := 0) rfl)
    refine l_plain rfl ?_
    refine s_alloc (l := zero6) rfl rfl fun b => ?_
    refine l_plain rfl ?_
    refine s_storeN (i := 0) (vs := scL s) rfl rfl rfl (by rw [scL_len]; rfl) (scL_one s) (by rw [scL_len]; rfl) ?_
    rw [spl6]
    repeat (first | refine wW ?_ | intro b)
    refine l_plain rfl ?_
    apply s_val rfl rfl
    · exact r_loadN rfl rfl (scL_len s) (rdn_all 0 rfl)
    refine l_plain rfl (s_call rfl rfl (class_c s) [] rfl ?_ (fun _ _ h => h.elim))
    rintro _ _ ⟨rfl, rfl⟩
    repeat (first | refine wW ?_ | intro b)
    exact at_intro (i + 1) ⟨by omega, by omega⟩ ⟨rfl, rfl, rfl, trivial⟩ (arr_ent 1 [1] _)
  · repeat (first | refine wW ?_ | intro b)
    exact e_ret1 [_] rfl rfl ⟨rfl, rfl⟩ (Ent.refl _)
/-- whether scalars can be written -/
def small (s : Sc) : Prop := (kS s).length < 65536
theorem Encodes_c (a : Option Addr) (c : Nat) (l : List Sc) (hsm : ∀ s ∈ l, (kS s).length ≤ 100000000000) : Ct Tryd.prog 7 #[.slice a l.length c] [slP (.slice a l.length c) 36 6 (l.flatMap scL)]
    (fun v B => ((v = .int .i64 1 ∧ ∀ s ∈ l, small s) ∨ v = .int .i64 2) ∧ B = [slP (.slice a l.length c) 36 6 (l.flatMap scL)]) nev := by
  refine Ct.of Tryd.func7 rfl Tryd.ntmps7 rfl fun m F => ?_
  refine slP_len fun _ hlc hcm => ?_
  have hml : maxLen ≤ 9223372036854775807 := by unfold maxLen; omega
  repeat (first | refine wW ?_ | intro b)
  refine l_plain rfl (s_call rfl rfl (scalars_c a c l) [0] rfl ?_ (fun _ _ h => h.elim))
  rintro _ _ ⟨rfl, rfl⟩
  repeat (first | refine wW ?_ | intro b)
  refine c_loop (α := Nat) (fun i => [(8, .slice a l.length c), (9, .int .i64 (l.length : Nat)), (10, .int .i64 (i : Nat))]) (fun _ => slP (.slice a l.length c) 36 6 (l.flatMap scL) :: F) (fun i => i ≤ l.length ∧ ∀ s ∈ l.take i, small s) (fun i => l.length - i) 0 ⟨Nat.zero_le _, by simp⟩ ⟨rfl, rfl, rfl, trivial⟩ (Ent.refl _) ?_
  rintro i ⟨hi, hall⟩
  repeat (first | refine wW ?_ | intro b)
  refine c_cond rfl (fun h => ?_) (fun h => ?_)
  · have h := of_decide_eq_true h
    refine scs_some (i := i) (by omega) fun sb s hsb hs => ?_
    subst hsb
    repeat (first | refine wW ?_ | intro b)
    refine l_plain rfl ?_
    apply s_val rfl rfl
    · exact RunS.v (r_index (i := i) rfl rfl rfl (by omega))
    rw [Nat.zero_add]
    refine l_plain rfl ?_
    apply s_val rfl rfl
    · exact r_loadN rfl rfl (scL_len s) (scs_at hs (j := 0) rfl)
    refine l_plain rfl ?_
    refine s_alloc (l := zero6) rfl rfl fun b => ?_
    refine l_plain rfl ?_
    refine s_storeN (i := 0) (vs := scL s) rfl rfl rfl (by rw [scL_len]; rfl) (scL_one s) (by rw [scL_len]; rfl) ?_
    rw [spl6]
    repeat (first | refine wW ?_ | intro b)
    refine l_plain rfl ?_
    apply s_val rfl rfl
    · exact r_load rfl rfl (rd_blk 0 rfl (scL_kS s))
    repeat (first | refine wW ?_ | intro b)
    refine c_cond rfl (fun h2 => ?_) (fun h2 => ?_)
    · repeat (first | refine wW ?_ | intro b)
      exact e_ret1 [_] rfl rfl ⟨.inr rfl, rfl⟩ (arr_ent 1 [1] _)
    · have h2 := of_decide_eq_false h2
      have hss : small s := by unfold small; have : ((⟨(kS s).toArray⟩ : ByteArray).size) = (kS s).length := rfl; omega
      repeat (first | refine wW ?_ | intro b)
      refine at_intro (i + 1) ⟨⟨by omega, ?_⟩, by omega⟩ ⟨rfl, rfl, rfl, trivial⟩ (arr_ent 1 [1] _)
      intro x hx
      rw [List.take_add_one, hs] at hx
      simp only [List.mem_append, Option.toList_some, List.mem_singleton] at hx
      rcases hx with hx | rfl
      · exact hall x hx
      · exact hss
  · have h := of_decide_eq_false h
    have hil : i = l.length := by omega
    subst hil
    rw [List.take_length] at hall
    repeat (first | refine wW ?_ | intro b)
    exact e_ret1 [_] rfl rfl ⟨.inl ⟨rfl, hall⟩, rfl⟩ (Ent.refl _)
theorem specScalars_c (a : Option Addr) (c : Nat) (l : List Sc) (hl : l.length ≤ 100000000000) : Ct Tryd.prog 8 #[.slice a l.length c] [slP (.slice a l.length c) 36 6 (l.flatMap scL)]
    (fun v B => ∃ a' c', v = .slice a' l.length c' ∧ B = [slP (.slice a' l.length c') 36 6 (l.flatMap scL), slP (.slice a l.length c) 36 6 (l.flatMap scL)]) nev := by
  refine Ct.of Tryd.func8 rfl Tryd.ntmps8 rfl fun m F => ?_
  have hml : 1000000000000 ≤ maxLen := by unfold maxLen; omega
  repeat (first | refine wW ?_ | intro b)
  refine c_loop (α := Nat × Option Addr × Nat) (fun y => [(0, .slice a l.length c), (3, .slice y.2.1 y.1 y.2.2), (4, .int .i64 (y.1 : Nat))]) (fun y => slP (.slice y.2.1 y.1 y.2.2) 36 6 ((l.take y.1).flatMap scL) :: slP (.slice a l.length c) 36 6 (l.flatMap scL) :: F) (fun y => y.1 ≤ l.length) (fun y => l.length - y.1) (0, none, 0) (Nat.zero_le _) ⟨rfl, rfl, rfl, trivial⟩ (slP_nil (e := 36) (size := 6)) ?_
  rintro ⟨i, oa, oc⟩ hi
  dsimp only at hi ⊢
  repeat (first | refine wW ?_ | intro b)
  refine c_cond rfl (fun h => ?_) (fun h => ?_)
  · have h := of_decide_eq_true h
    refine G.ent (L' := slP (.slice a l.length c) 36 6 (l.flatMap scL) :: slP (.slice oa i oc) 36 6 ((l.take i).flatMap scL) :: F) (arr_ent 0 [1, 0] _) ?_
    refine scs_some (i := i) (by omega) fun sb s hsb hs => ?_
    subst hsb
    repeat (first | refine wW ?_ | intro b)
    refine l_plain rfl ?_
    apply s_val rfl rfl
    · exact RunS.v (r_index (i := i) rfl rfl rfl (by omega))
    rw [Nat.zero_add]
    refine l_plain rfl ?_
    apply s_val rfl rfl
    · exact r_loadN rfl rfl (scL_len s) (scs_at hs (j := 0) rfl)
    refine l_plain rfl ?_
    refine s_build (size := 6) (vs := [.agg (scL s).toArray]) (l := scL s) rfl rfl rfl rfl rfl (by intro v hv; simp at hv; subst hv; exact scL_len s) (by simp [Value.cells]) rfl rfl ?_
    intro tb
    refine l_plain rfl (s_append (i := 2) (k := i) rfl rfl rfl (Src.some _ _ _ _ _ (scL_len s) (rdn_all 0 rfl)) rfl rfl (by rw [scLs_len, List.length_take]; omega) (scL_one s) (by omega) (by omega) rfl ?_)
    intro a' c'
    repeat (first | refine wW ?_ | intro b)
    refine at_intro (i + 1, a', c') ⟨by dsimp only; omega, by dsimp only; omega⟩ ⟨rfl, rfl, rfl, trivial⟩ ?_
    dsimp only
    rw [List.take_add_one, hs, List.flatMap_append, show (some s).toList.flatMap scL = scL s by simp]
    exact arr_ent 1 [0, 1] _
  · have h := of_decide_eq_false h
    have hil : i = l.length := by omega
    subst hil
    rw [List.take_length]
    repeat (first | refine wW ?_ | intro b)
    exact e_ret1 [_, _] rfl rfl ⟨oa, oc, rfl, rfl⟩ (Ent.refl _)
end Go.Proofs.YtfebpbflpdppiaaDoor
