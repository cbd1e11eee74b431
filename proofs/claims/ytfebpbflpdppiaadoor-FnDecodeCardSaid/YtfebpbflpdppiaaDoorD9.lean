/- The walks over values, EncodeScalars, Encode. -/
import Derived.Test.YtfebpbflpdppiaaDoorD8
namespace Go.Proofs.YtfebpbflpdppiaaDoor
open Go Go.Sl
set_option maxRecDepth 100000
theorem any_bytesA {n : Nat} {ds : List Deferred} {σ : Env} {m : Amb} {L : List HP} {Φ : Act → World → Prop} {v : Value} {s : List UInt8}
    (h : ∀ a c, v = .iface 22 (.slice a s.length c) → (∀ L', Src (anyP (v, .bytes s) :: L') 1 (.slice a s.length c) s.length (u8s s)) → G n ds σ m (anyP (v, .bytes s) :: L) Φ) : G n ds σ m (anyP (v, .bytes s) :: L) Φ := by
  intro a w h1 h2 h3 h4
  obtain ⟨g, hg, hA⟩ := h4.2.2.2.head
  rcases hA with ⟨rfl, rfl⟩ | ⟨b, c, rfl, hc1, hc2, hro⟩
  · exact h none 0 rfl (fun _ => .nil) a w h1 h2 h3 h4
  · refine h (some ⟨b, 0, none⟩) c rfl (fun L' => .some b 0 _ c _ (by simp) (RdN.of fun j u hu => ?_)) a w h1 h2 h3 h4
    intro m' w' hw'
    obtain ⟨g', hg', hA'⟩ := hw'.2.2.2.head
    rcases hA' with ⟨rfl, hv⟩ | ⟨b', c', hv, _, _, hro'⟩
    · simp [u8s] at hu
    · simp only [Value.iface.injEq, Value.slice.injEq, Option.some.injEq, Addr.mk.injEq, true_and, and_true] at hv
      obtain ⟨⟨rfl, _⟩, _⟩ := hv
      obtain ⟨cc, fz, hcc, ht⟩ := hro'
      have e2 : w'.heap[b]? = some (.cells cc 5 fz) := hg' _ _ hcc
      simp only [Nat.zero_add]
      rw [← ht, List.getElem?_take] at hu
      split at hu
      · simp [World.cell?, e2]; simpa using hu
      · cases hu
def Sc.wf : Sc → Prop
  | .i64 n => -9223372036854775808 ≤ n ∧ n ≤ 9223372036854775807
  | .u64 n => n < 2 ^ 64
  | .f64 u => u < 2 ^ 64
  | .c128 u v => u < 2 ^ 64 ∧ v < 2 ^ 64
  | _ => True
def encSc : Sc → List Value
  | .nil => [.int .u8 0]
  | .bool b => [.int .u8 (if b then 2 else 1)]
  | .i64 n => encI n
  | .u64 n => encUi n
  | .f64 u => encF 3 u
  | .c128 u v => encF 12 u ++ encF 12 v
  | .bytes s => if s.length ≤ 17 then b0 (21 + (s.length : Nat)) :: u8s s else if s.length ≤ 255 then .int .u8 39 :: b0 (s.length : Nat) :: u8s s else .int .u8 40 :: bt ((s.length : Nat) - 1) 8 :: b0 ((s.length : Nat) - 1) :: u8s s
  | .str s => if s.length ≤ 17 then b0 (41 + (s.length : Nat)) :: u8s s else .int .u8 (if s.length ≤ 255 then 59 else 60) :: (encU s.length ++ u8s s)
def encL (l : List Sc) : List Value := l.flatMap encSc
theorem encSc_len (s : Sc) (h : small s) : (encSc s).length ≤ 65600 := by
  unfold small at h
  cases s with
  | nil => exact Nat.le_of_ble_eq_true rfl
  | bool b => exact Nat.le_of_ble_eq_true rfl
  | i64 n => have := (encI_len n).2; simp only [encSc]; omega
  | u64 n => have := encU_len n; simp only [encSc, encUi, List.length_cons]; omega
  | f64 u => have := encF_len 3 u; simp only [encSc]; omega
  | c128 u v => have := encF_len 12 u; have := encF_len 12 v; simp only [encSc, List.length_append]; omega
  | bytes t =>
    have h : t.length < 65536 := h
    simp only [encSc]
    split
    · simp; omega
    · split <;> (simp; omega)
  | str t =>
    have h : t.length < 65536 := h
    have := encU_len t.length
    simp only [encSc]
    split <;> (simp; omega)
theorem encL_len : ∀ (l : List Sc), (∀ s ∈ l, small s) → (encL l).length ≤ l.length * 65600 := by
  intro l
  induction l with
  | nil => intro _; simp [encL]
  | cons s l ih =>
    intro h
    have h1 := encSc_len s (h s (by simp))
    have h2 := ih fun x hx => h x (by simp [hx])
    simp only [encL, List.flatMap_cons, List.length_append, List.length_cons] at h2 ⊢
    omega
attribute [local irreducible] wpList Code.wp Exit.then Exit.inBlock bodyPost RunS RunV G St Ct Sat Ent At Rd GQ QL wpAny wpOp wpQuiet slP Sl.ex sep
attribute [local irreducible] anys anyP encSc bufP
theorem values_c (a : Option Addr) (c : Nat) (l : List Sc) (hl : l.length ≤ 1000000000) (hs : ∀ s ∈ l, small s) : Ct Tryd.prog 18 #[.slice a l.length c] [slP (.slice a l.length c) 36 6 (l.flatMap scL)]
    (fun v B => ∃ a' c' acc, acc.map Prod.snd = l ∧ (∀ p ∈ acc, p.1.oneCell' = true) ∧ v = .slice a' acc.length c' ∧ B = [slP (.slice a' acc.length c') 20 1 (acc.map Prod.fst), anys acc, slP (.slice a l.length c) 36 6 (l.flatMap scL)]) nev := by
  refine Ct.of Tryd.func18 rfl Tryd.ntmps18 rfl fun m F => ?_
  have hml : 1000000000000 ≤ maxLen := by unfold maxLen; omega
  repeat (first | refine wW ?_ | intro b)
  refine c_loop (α := Nat × Option Addr × Nat × List (Value × Sc)) (fun y => [(3, .slice y.2.1 y.2.2.2.length y.2.2.1), (6, .slice a l.length c), (7, .int .i64 (l.length : Nat)), (8, .int .i64 (y.1 : Nat))])
    (fun y => slP (.slice y.2.1 y.2.2.2.length y.2.2.1) 20 1 (y.2.2.2.map Prod.fst) :: anys y.2.2.2 :: slP (.slice a l.length c) 36 6 (l.flatMap scL) :: F)
    (fun y => y.1 ≤ l.length ∧ y.2.2.2.length = y.1 ∧ y.2.2.2.map Prod.snd = l.take y.1 ∧ ∀ p ∈ y.2.2.2, p.1.oneCell' = true) (fun y => l.length - y.1) (0, none, 0, []) ⟨Nat.zero_le _, rfl, rfl, by simp⟩ ⟨rfl, rfl, rfl, rfl, trivial⟩ (anys_nil.trans (slP_nil (e := 20) (size := 1))) ?_
  rintro ⟨i, oa, oc, acc⟩ ⟨hi, hal, has, ha1⟩
  dsimp only at hi hal has ha1 ⊢
  repeat (first | refine wW ?_ | intro b)
  refine c_cond rfl (fun h => ?_) (fun h => ?_)
  · have h := of_decide_eq_true h
    refine G.ent (L' := slP (.slice a l.length c) 36 6 (l.flatMap scL) :: slP (.slice oa acc.length oc) 20 1 (acc.map Prod.fst) :: anys acc :: F) (arr_ent 0 [2, 0, 0] _) ?_
    refine scs_some (i := i) (by omega) fun sb s hsb hsi => ?_
    subst hsb
    have hsm : small s := hs s (List.mem_of_getElem? hsi)
    repeat (first | refine wW ?_ | intro b)
    refine l_plain rfl ?_
    apply s_val rfl rfl
    · exact RunS.v (r_index (i := i) rfl rfl rfl (by omega))
    rw [Nat.zero_add]
    refine l_plain rfl ?_
    apply s_val rfl rfl
    · exact r_loadN rfl rfl (scL_len s) (scs_at hsi (j := 0) rfl)
    refine l_plain rfl ?_
    refine s_alloc (l := zero6) rfl rfl fun b => ?_
    refine l_plain rfl ?_
    refine s_storeN (i := 0) (vs := scL s) rfl rfl rfl (by rw [scL_len]; rfl) (scL_one s) (by rw [scL_len]; rfl) ?_
    rw [spl6]
    repeat (first | refine wW ?_ | intro b)
    refine l_plain rfl (s_call rfl rfl (value_c s (by unfold small at hsm; omega)) [] rfl ?_ (fun _ _ h => h.elim))
    rintro v _ ⟨⟨hv, hv1⟩, rfl⟩
    refine l_plain rfl (s_build1 rfl rfl rfl rfl (by simp [hv1]) rfl rfl fun tb => ?_)
    refine l_plain rfl (s_append (i := 4) rfl rfl rfl (Src.some _ _ _ _ _ rfl (rdn_all 0 rfl)) rfl rfl (by simp) (by simp [hv]) (by omega) (by omega) rfl ?_)
    intro a' c'
    repeat (first | refine wW ?_ | intro b)
    refine at_intro (i + 1, a', c', acc ++ [(v, s)]) ⟨⟨by dsimp only; omega, by dsimp only; simp [hal], ?_, ?_⟩, by dsimp only; omega⟩ ⟨by rw [List.length_append]; rfl, rfl, rfl, rfl, trivial⟩ ?_
    · dsimp only
      rw [List.map_append, has, List.take_add_one, hsi]; rfl
    · intro p hp
      simp only [List.mem_append, List.mem_singleton] at hp
      rcases hp with hp | rfl
      · exact ha1 p hp
      · exact hv
    · dsimp only
      rw [List.length_append, List.map_append]
      exact (arr_ent 2 [0, 1, 3, 2] _).trans (Ent.cons (anys_snoc (v, s) acc _))
  · have h := of_decide_eq_false h
    have hil : i = l.length := by omega
    subst hil
    rw [List.take_length] at has
    repeat (first | refine wW ?_ | intro b)
    exact e_ret1 [_, _, _] rfl rfl ⟨oa, oc, acc, has, ha1, rfl, rfl⟩ (Ent.refl _)
end Go.Proofs.YtfebpbflpdppiaaDoor
