/- The third part of the calculus. -/
import Derived.Test.YtfebpbflpdppiaaDoorWk
namespace Go.Sl
open Go
theorem Src.rdn {L : List HP} {size b o k c : Nat} {l : List Value} (h : Src L size (.slice (Option.some ⟨b, o, none⟩) k c) k l) : RdN L b o l := by
  cases h with
  | some _ _ _ _ _ _ hr => exact hr
theorem Src.len {L : List HP} {size k : Nat} {v : Value} {l : List Value} (h : Src L size v k l) : l.length = k * size := by
  cases h with
  | nil => simp
  | some _ _ _ _ _ hl _ => exact hl
theorem opd_int {σ : Env} {x : Operand} {k : IntKind} {a b : Int} (h : opd σ x = some (.int k a)) (e : a = b) : opd σ x = some (.int k b) := e ▸ h
theorem Ent.left : ∀ (A F : List HP), Ent (A ++ F) A
  | [], _ => fun _ _ => True.intro
  | _ :: A, F => Ent.cons (Ent.left A F)
theorem Src.none0 {L : List HP} {size k c : Nat} {l : List Value} (h : Src L size (.slice Option.none k c) k l) : k = 0 := by cases h; rfl
theorem Src.spot {L : List HP} {size k c : Nat} {a : Addr} {l : List Value} (h : Src L size (.slice (Option.some a) k c) k l) : a.spot = Option.none := by cases h; rfl
theorem max_u64 : IntKind.u64.max = 18446744073709551615 := by decide
theorem max_i64 : IntKind.i64.max = 9223372036854775807 := by decide
theorem p64 : (2 : Nat) ^ IntKind.u64.bits = 18446744073709551616 := by decide
theorem opds_pairs {σ : Env} {a : Act} (g : Agr σ a.tmps) : ∀ {parts : List (Nat × Operand)} {vs : List Value}, opds σ (parts.map (·.2)) = some vs → parts.map (fun p => (p.1, a.eval p.2)) = (parts.map (·.1)).zip vs := by
  intro parts
  induction parts with
  | nil => intro vs h; simp
  | cons p ps ih =>
    intro vs h
    simp only [List.map_cons, opds] at h
    cases hx : opd σ p.2 with
    | none => simp [hx] at h
    | some v =>
      simp only [hx] at h
      cases hy : opds σ (ps.map (·.2)) with
      | none => simp [hy] at h
      | some us =>
        simp only [hy, Option.some.injEq] at h
        subst h
        simp [opd_eval g hx, ih hy]
/-- a struct's literal -/
theorem r_build {P : Program} {σ : Env} {d : Option Tmp} {ty t : TypeId} {pos : String} {aft : Array Edge} {gd : Option (Nat × Bool)} {parts : List (Nat × Operand)} {vs : List Value} {cells : Array Value} (hx : opds σ (parts.map (·.2)) = some vs)
    (h : P.built t ((parts.map (·.1)).zip vs) = some cells) : RunS P ⟨d, .build t parts.toArray, ty, pos, aft, gd⟩ σ (.agg cells) := fun a w g => by
  have hb := run_build (P := P) w t ((parts.map (·.1)).zip vs).toArray cells (by simpa using h)
  simp only [execOp]
  rw [show (parts.toArray.map fun (p : Nat × Operand) => (p.1, a.eval p.2)) = ((parts.map (·.1)).zip vs).toArray from by rw [List.map_toArray, opds_pairs g hx]]
  simp [hb]
theorem pure_in {A : HP} {L : List HP} (h : A fun _ => none) : Ent L (A :: L) := fun H hl => ⟨fun _ => none, H, fun _ _ e => (by cases e), PH.sub.refl _, fun _ => Or.inl rfl, h, hl⟩
/-- append(nil, ..) of what a source holds -/
theorem s_appNil {P : Program} {n : Nat} {ds : List Deferred} {σ : Env} {m : Amb} {L : List HP} {Q : Exit → Act → World → Prop} {K : Act → World → Prop} {d : Nat} {ty : TypeId} {pos : String} {aft : Array Edge} {gd : Option (Nat × Bool)} {x y : Operand} {t e : TypeId}
    {a : Option Addr} {k c0 bytes : Nat} {z : Value} {news : List Value} [h1 : TyU P t (.slice e)] [h2 : TyI P e 1 bytes z] (hx : opd σ x = some (.slice none 0 0)) (hy : opd σ y = some (.slice a k c0)) (hs : Src L 1 (.slice a k c0) k news)
    (hz : z.cells = #[z]) (hm : k ≤ maxLen) (hb : k * bytes ≤ 140737488355328) (hk : Nat.blt d n = true)
    (h0 : k = 0 → G n ds ((d, .slice none 0 0) :: σ) m L K)
    (h : 0 < k → ∀ nb c, k ≤ c → c ≤ maxLen → G n ds ((d, .slice (some ⟨nb, 0, none⟩) k c) :: σ) m (blk nb (cl (news ++ List.replicate (c - k) z) e) :: L) K) :
    G n ds σ m L (St P ⟨some d, .call ⟨.builtin .append, #[x, y], #[t, t]⟩, ty, pos, aft, gd⟩ K Q) := by
  by_cases hk0 : k = 0
  · subst hk0
    exact s_appNil0 (size := 1) hx hy hk (h0 rfl)
  · cases a with
    | none => exact absurd hs.none0 hk0
    | some ad =>
      obtain ⟨b, o, sp⟩ := ad
      have hsp : sp = none := hs.spot
      subst hsp
      exact s_appNil1 hx hy (by omega) (by have := hs.len; simpa using this) hs.rdn hz hm hb hk (h (by omega))
theorem wrap_u64N (a : Nat) : IntKind.u64.wrap (a : Int) = ((a % 18446744073709551616 : Nat) : Int) := by
  simp [IntKind.wrap, IntKind.signed, IntKind.bits]
theorem shl8u (a : Nat) : IntKind.u64.wrap ((a : Int) * 2 ^ (min (8 : Int).toNat IntKind.u64.bits)) = ((a * 256 % 18446744073709551616 : Nat) : Int) := by
  rw [show (2 : Int) ^ (min (8 : Int).toNat IntKind.u64.bits) = 256 from by decide, ← wrap_u64N]
  congr 1
theorem or8 (a b : Nat) (h : b < 256) : a * 256 ||| b = a * 256 + b := by
  have := Nat.shiftLeft_add_eq_or_of_lt (i := 8) (b := b) (by simpa using h) a
  rw [Nat.shiftLeft_eq] at this
  exact this.symm
theorem or8u (a v : Nat) (h : v < 256) : (a * 256 % 18446744073709551616) ||| v = a * 256 % 18446744073709551616 + v := by
  rw [show a * 256 % 18446744073709551616 = (a % 72057594037927936) * 256 by omega, or8 _ _ h]
theorem or8i {P : Program} (a : Int) (v : Nat) (h : v < 256) (w : World) : (Op.intBits .or .i64 (IntKind.i64.wrap (a * 2 ^ (min (8 : Int).toNat IntKind.i64.bits))) (v : Nat)).run P w = .ok (.int .i64 (IntKind.i64.wrap (a * 256 + v))) w := by
  rw [show (2 : Int) ^ (min (8 : Int).toNat IntKind.i64.bits) = 256 from by decide]
  have e1 : (BitVec.ofInt 64 (IntKind.i64.wrap (a * 256))).toNat = (a % 72057594037927936).toNat * 256 := by
    rw [BitVec.toNat_ofInt]
    simp only [IntKind.wrap, IntKind.signed, IntKind.bits]
    simp
    split <;> omega
  have e2 : (BitVec.ofInt 64 ((v : Nat) : Int)).toNat = v := ofInt_nn (by omega)
  have e3 : (BitVec.ofInt IntKind.i64.bits (IntKind.i64.wrap (a * 256)) ||| BitVec.ofInt IntKind.i64.bits ((v : Nat) : Int)).toNat = (a % 72057594037927936).toNat * 256 + v := by
    show (BitVec.ofInt 64 (IntKind.i64.wrap (a * 256)) ||| BitVec.ofInt 64 ((v : Nat) : Int)).toNat = _
    rw [BitVec.toNat_or, e1, e2, or8 _ _ h]
  simp only [Op.intBits, e3]
  have e4 : IntKind.i64.wrap (((a % 72057594037927936).toNat * 256 + v : Nat) : Int) = IntKind.i64.wrap (a * 256 + (v : Nat)) := by
    simp only [IntKind.wrap, IntKind.signed, IntKind.bits]
    simp
    split <;> split <;> omega
  rw [e4]; rfl
end Go.Sl
