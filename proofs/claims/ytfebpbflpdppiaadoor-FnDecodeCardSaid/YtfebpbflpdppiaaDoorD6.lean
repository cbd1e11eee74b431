/- Walks over scalar, kind, Decode and its deferred closure. -/
import Derived.Test.YtfebpbflpdppiaaDoorD5
import Derived.Test.YtfebpbflpdppiaaDoorWy
namespace Go.Proofs.YtfebpbflpdppiaaDoor
open Go Go.Sl
set_option maxRecDepth 100000
def kName : Sc → List UInt8
  | .nil => [110, 105, 108]
  | .bool _ => [98, 111, 111, 108]
  | .i64 _ => [105, 110, 116, 54, 52]
  | .u64 _ => [117, 105, 110, 116, 54, 52]
  | .f64 _ => [102, 108, 111, 97, 116, 54, 52]
  | .c128 _ _ => [99, 111, 109, 112, 108, 101, 120, 49, 50, 56]
  | .bytes _ => [98, 121, 116, 101, 115]
  | .str _ => [115, 116, 114, 105, 110, 103]
def kI : Sc → Int
  | .bool b => if b then 1 else 0
  | .i64 n => n
  | _ => 0
def kU : Sc → Nat
  | .u64 n => n
  | _ => 0
def kF : Sc → Nat
  | .f64 n => n
  | .c128 n _ => n
  | _ => 0
def kG : Sc → Nat
  | .c128 _ n => n
  | _ => 0
def kS : Sc → List UInt8
  | .bytes s => s
  | .str s => s
  | _ => []
/-- a scalar as the struct's cells -/
def scL (s : Sc) : List Value := [.string ⟨(kName s).toArray⟩, .int .i64 (kI s), .int .u64 (kU s : Nat), .int .u64 (kF s : Nat), .int .u64 (kG s : Nat), .string ⟨(kS s).toArray⟩]
theorem anyE {n : Nat} {ds : List Deferred} {σ : Env} {m : Amb} {L : List HP} {Φ : Act → World → Prop} {v : Value} {s : Sc} {p : Prop} (h : ∀ g, anyP (v, s) g → p) (hp : p → G n ds σ m (anyP (v, s) :: L) Φ) : G n ds σ m (anyP (v, s) :: L) Φ :=
  G.fact (fun H hs => by obtain ⟨_, _, hA⟩ := hs.head; exact h _ hA) hp
theorem any_bytes {n : Nat} {ds : List Deferred} {σ : Env} {m : Amb} {L : List HP} {Φ : Act → World → Prop} {v : Value} {s : List UInt8}
    (h : ∀ a c, v = .iface 22 (.slice a s.length c) → Src (anyP (v, .bytes s) :: L) 1 (.slice a s.length c) s.length (u8s s) → G n ds σ m (anyP (v, .bytes s) :: L) Φ) : G n ds σ m (anyP (v, .bytes s) :: L) Φ := by
  intro a w h1 h2 h3 h4
  obtain ⟨g, hg, hA⟩ := h4.2.2.2.head
  rcases hA with ⟨rfl, rfl⟩ | ⟨b, c, rfl, hc1, hc2, hro⟩
  · exact h none 0 rfl .nil a w h1 h2 h3 h4
  · refine h (some ⟨b, 0, none⟩) c rfl (.some b 0 _ c _ (by simp) (RdN.of fun j u hu => ?_)) a w h1 h2 h3 h4
    intro m' w' hw'
    obtain ⟨g', hg', hA'⟩ := hw'.2.2.2.head
    rcases hA' with ⟨rfl, hv⟩ | ⟨b', c', hv, _, _, hro'⟩
    · simp [u8s] at hu
    · simp only [Value.iface.injEq, Value.slice.injEq, Option.some.injEq, Addr.mk.injEq, true_and, and_true] at hv
      obtain ⟨⟨rfl, _⟩, _⟩ := hv
      obtain ⟨cc, fz, hcc, ht⟩ := hro'
      have e2 : w'.heap[b]? = some (.cells cc 5 fz) := hg' _ _ hcc
      simp only [Nat.zero_add]
      rw [← ht, List.getElem?_take] at hu
      split at hu
      · simp [World.cell?, e2]; simpa using hu
      · cases hu
def anyVal : Sc → Option Value
  | .nil => some .nilIface
  | .bool b => some (.iface 4 (.bool b))
  | .i64 n => some (.iface 2 (.int .i64 n))
  | .u64 n => some (.iface 34 (.int .u64 n))
  | .f64 u => some (.iface 57 (.float .f64 u))
  | .c128 u w => some (.iface 59 (.complex .f64 u w))
  | .bytes _ => none
  | .str s => some (.iface 9 (.string ⟨s.toArray⟩))
theorem any_val {v u : Value} {s : Sc} {g : PH} (h : anyP (v, s) g) (e : anyVal s = some u) : v = u := by
  cases s <;> simp [anyVal] at e <;> subst e <;> exact h
attribute [local irreducible] wpList Code.wp Exit.then Exit.inBlock bodyPost RunS RunV G St Ct Sat Ent At Rd GQ QL wpAny wpOp wpQuiet slP Sl.ex sep
attribute [local irreducible] anys anyP
def ret1 (v : Value) (s : Sc) : Value → List HP → Prop := fun r B => r = .agg (scL s).toArray ∧ B = [anyP (v, s)]
set_option maxHeartbeats 4000000 in
theorem scalar_c (v : Value) (s : Sc) : Ct Tryd.prog 15 #[v] [anyP (v, s)] (ret1 v s) nev := by
  refine Ct.of Tryd.func15 rfl Tryd.ntmps15 rfl fun m F => ?_
  show G _ _ _ _ (anyP (v, s) :: F) _
  cases s with
  | nil =>
    refine anyE (p := v = _) (fun _ h => any_val h rfl) ?_
    rintro rfl
    repeat (first | refine wW ?_ | intro b)
    refine l_plain rfl ?_
    apply s_val rfl rfl
    · exact RunS.v (r_build (cells := (scL .nil).toArray) rfl (by kernel_rfl))
    repeat (first | refine wW ?_ | intro b)
    exact e_retC1 (vs := scL .nil) [anyP (_, .nil)] rfl rfl rfl rfl (rdn_all 0 rfl) ⟨rfl, rfl⟩ (arr_ent 1 [1] _)
  | bool b =>
    refine anyE (p := v = _) (fun _ h => any_val h rfl) ?_
    rintro rfl
    cases b
    · repeat (first | refine wW ?_ | intro b)
      refine l_plain rfl ?_
      apply s_val rfl rfl
      · exact RunS.v (r_build (cells := (scL (.bool false)).toArray) rfl (by kernel_rfl))
      repeat (first | refine wW ?_ | intro b)
      exact e_retC1 (vs := scL (.bool false)) [anyP (_, (.bool false))] rfl rfl rfl rfl (rdn_all 0 rfl) ⟨rfl, rfl⟩ (arr_ent 1 [1] _)
    · repeat (first | refine wW ?_ | intro b)
      refine l_plain rfl ?_
      apply s_val rfl rfl
      · exact RunS.v (r_build (cells := (scL (.bool true)).toArray) rfl (by kernel_rfl))
      repeat (first | refine wW ?_ | intro b)
      exact e_retC1 (vs := scL (.bool true)) [anyP (_, (.bool true))] rfl rfl rfl rfl (rdn_all 0 rfl) ⟨rfl, rfl⟩ (arr_ent 1 [1] _)
  | i64 n =>
    refine anyE (p := v = _) (fun _ h => any_val h rfl) ?_
    rintro rfl
    repeat (first | refine wW ?_ | intro b)
    refine l_plain rfl ?_
    apply s_val rfl rfl
    · exact RunS.v (r_build (cells := (scL (.i64 n)).toArray) rfl (by kernel_rfl))
    repeat (first | refine wW ?_ | intro b)
    exact e_retC1 (vs := scL (.i64 n)) [anyP (_, (.i64 n))] rfl rfl rfl rfl (rdn_all 0 rfl) ⟨rfl, rfl⟩ (arr_ent 1 [1] _)
  | u64 n =>
    refine anyE (p := v = _) (fun _ h => any_val h rfl) ?_
    rintro rfl
    repeat (first | refine wW ?_ | intro b)
    refine l_plain rfl ?_
    apply s_val rfl rfl
    · exact RunS.v (r_build (cells := (scL (.u64 n)).toArray) rfl (by kernel_rfl))
    repeat (first | refine wW ?_ | intro b)
    exact e_retC1 (vs := scL (.u64 n)) [anyP (_, (.u64 n))] rfl rfl rfl rfl (rdn_all 0 rfl) ⟨rfl, rfl⟩ (arr_ent 1 [1] _)
  | f64 u =>
    refine anyE (p := v = _) (fun _ h => any_val h rfl) ?_
    rintro rfl
    repeat (first | refine wW ?_ | intro b)
    refine l_plain rfl ?_
    apply s_val rfl rfl
    · exact RunS.v (r_ext rfl (f64bits u))
    repeat (first | refine wW ?_ | intro b)
    refine l_plain rfl ?_
    apply s_val rfl rfl
    · exact RunS.v (r_build (cells := (scL (.f64 u)).toArray) rfl (by kernel_rfl))
    repeat (first | refine wW ?_ | intro b)
    exact e_retC1 (vs := scL (.f64 u)) [anyP (_, (.f64 u))] rfl rfl rfl rfl (rdn_all 0 rfl) ⟨rfl, rfl⟩ (arr_ent 1 [1] _)
  | c128 u1 u2 =>
    refine anyE (p := v = _) (fun _ h => any_val h rfl) ?_
    rintro rfl
    repeat (first | refine wW ?_ | intro b)
    refine l_plain rfl ?_
    apply s_val rfl rfl
    · exact RunS.v (r_ext rfl (f64bits u1))
    repeat (first | refine wW ?_ | intro b)
    refine l_plain rfl ?_
    apply s_val rfl rfl
    · exact RunS.v (r_ext rfl (f64bits u2))
    repeat (first | refine wW ?_ | intro b)
    refine l_plain rfl ?_
    apply s_val rfl rfl
    · exact RunS.v (r_build (cells := (scL (.c128 u1 u2)).toArray) rfl (by kernel_rfl))
    repeat (first | refine wW ?_ | intro b)
    exact e_retC1 (vs := scL (.c128 u1 u2)) [anyP (_, (.c128 u1 u2))] rfl rfl rfl rfl (rdn_all 0 rfl) ⟨rfl, rfl⟩ (arr_ent 1 [1] _)
  | str t =>
    refine anyE (p := v = _) (fun _ h => any_val h rfl) ?_
    rintro rfl
    repeat (first | refine wW ?_ | intro b)
    refine l_plain rfl ?_
    apply s_val rfl rfl
    · exact RunS.v (r_build (cells := (scL (.str t)).toArray) rfl (by kernel_rfl))
    repeat (first | refine wW ?_ | intro b)
    exact e_retC1 (vs := scL (.str t)) [anyP (_, (.str t))] rfl rfl rfl rfl (rdn_all 0 rfl) ⟨rfl, rfl⟩ (arr_ent 1 [1] _)
  | bytes t =>
    refine any_bytes fun a c hv hs => ?_
    subst hv
    repeat (first | refine wW ?_ | intro b)
    refine l_plain rfl ?_
    apply s_val rfl rfl
    · exact r_bStr rfl (hs.ent Ent.drop) rfl
    repeat (first | refine wW ?_ | intro b)
    refine l_plain rfl ?_
    apply s_val rfl rfl
    · exact RunS.v (r_build (cells := (scL (.bytes t)).toArray) rfl (by kernel_rfl))
    repeat (first | refine wW ?_ | intro b)
    exact e_retC1 (vs := scL (.bytes t)) [anyP (_, .bytes t)] rfl rfl rfl rfl (rdn_all 0 rfl) ⟨rfl, rfl⟩ (arr_ent 1 [1] _)
end Go.Proofs.YtfebpbflpdppiaaDoor
