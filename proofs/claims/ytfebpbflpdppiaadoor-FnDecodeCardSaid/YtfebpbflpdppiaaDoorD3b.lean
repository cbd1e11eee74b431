/- The walk over decodeFloat. -/
import Derived.Test.YtfebpbflpdppiaaDoorD3
namespace Go.Proofs.YtfebpbflpdppiaaDoor
open Go Go.Sl
set_option maxRecDepth 100000
attribute [local irreducible] wpList Code.wp Exit.then Exit.inBlock bodyPost RunS RunV G St Ct Sat Ent At Rd GQ QL wpAny wpOp wpQuiet slP Sl.ex sep
/-- the bits out of the first i bytes -/
def fs (l : List UInt8) : Nat → Nat
  | 0 => 0
  | i + 1 => fs l i + (l.getD i 0).toNat * 2 ^ ((i + 8 - l.length) * 8)
theorem fs_lt (l : List UInt8) (hl : l.length ≤ 8) : ∀ i, fs l i < 2 ^ ((i + 8 - l.length) * 8) := by
  intro i
  induction i with
  | zero => simp only [fs]; exact Nat.two_pow_pos _
  | succ i ih =>
    have hb := (l.getD i 0).toNat_lt
    rw [show (i + 1 + 8 - l.length) * 8 = (i + 8 - l.length) * 8 + 8 by omega, Nat.pow_add]
    simp only [fs]
    have : (l.getD i 0).toNat * 2 ^ ((i + 8 - l.length) * 8) ≤ 255 * 2 ^ ((i + 8 - l.length) * 8) := Nat.mul_le_mul_right _ (by omega)
    omega
theorem u8s_get {l : List UInt8} {i : Nat} (h : i < l.length) : (u8s l)[i]? = some (Value.int IntKind.u8 ((l.getD i 0).toNat : Int)) := by
  simp [u8s, h]
theorem or_high (a b c : Nat) (h : a < 2 ^ c) : a ||| b * 2 ^ c = a + b * 2 ^ c := by
  have := Nat.shiftLeft_add_eq_or_of_lt (i := c) (b := a) h b
  rw [Nat.shiftLeft_eq] at this
  rw [Nat.or_comm, ← this, Nat.add_comm]
set_option maxHeartbeats 1000000 in
theorem decodeFloat_c {A : List HP} (a : Option Addr) (k c : Nat) (bs : List UInt8) (hs : Src A 1 (.slice a k c) k (u8s bs)) (hk : k ≤ 8) : Ct Tryd.prog 24 #[.slice a k c] A (fun v B => v = .float .f64 (fs bs k) ∧ B = A) nev := by
  have hlen : bs.length = k := by simpa using hs.len
  refine Ct.of Tryd.func24 rfl Tryd.ntmps24 rfl fun m F => ?_
  have hs' := hs.ent (Ent.left A F)
  have hfs := fs_lt bs (by omega)
  rw [hlen] at hfs
  repeat (first | refine wW ?_ | intro b)
  refine c_loop (α := Nat) (fun i => [(0, .slice a k c), (3, .int .u64 (fs bs i : Nat)), (6, .slice a k c), (7, .int .i64 (k : Nat)), (8, .int .i64 (i : Nat))]) (fun _ => A ++ F) (fun i => i ≤ k) (fun i => k - i) 0 (by omega) ⟨rfl, rfl, rfl, rfl, rfl, trivial⟩ (Ent.refl _) ?_
  intro i hi
  repeat (first | refine wW ?_ | intro b)
  by_cases h8 : i < k
  · refine c_condT (by rw [show decide ((i : Int) < (k : Int)) = true from decide_eq_true (by omega)]; rfl) ?_
    cases a with
    | none => exact absurd hs.none0 (by omega)
    | some ad =>
      obtain ⟨b, o, sp⟩ := ad
      have hsp : sp = none := hs.spot
      subst hsp
      have hrd : Rd (A ++ F) ⟨b, o + i, none⟩ (Value.int IntKind.u8 ((bs.getD i 0).toNat : Int)) := hs'.rdn.get (u8s_get (by omega))
      have hb := (bs.getD i 0).toNat_lt
      have h2 : 2 ^ ((i + 8 - k) * 8) ≤ 2 ^ 56 := Nat.pow_le_pow_right (by omega) (by omega)
      have h56 : (2 : Nat) ^ 56 = 72057594037927936 := by decide
      have hm : (bs.getD i 0).toNat * 2 ^ ((i + 8 - k) * 8) ≤ 255 * 72057594037927936 := by rw [← h56]; exact Nat.mul_le_mul (by omega) h2
      have hf := hfs i
      repeat (first | refine wW ?_ | intro b)
      refine l_plain rfl ?_
      apply s_val rfl rfl
      · exact RunS.v (r_index (i := i) rfl rfl rfl h8)
      rw [Nat.mul_one]
      refine l_plain rfl ?_
      apply s_val rfl rfl
      · exact r_load rfl rfl hrd
      repeat (first | refine wW ?_ | intro b)
      rw [show IntKind.u64.wrap ((bs.getD i 0).toNat : Int) = ((bs.getD i 0).toNat : Int) from wrap_nn (by rw [max_u64]; omega),
        show IntKind.u64.wrap (((i : Int) + 8 - (k : Int)) * 8) = (((i + 8 - k) * 8 : Nat) : Int) from by rw [show ((i : Int) + 8 - (k : Int)) * 8 = (((i + 8 - k) * 8 : Nat) : Int) by omega]; exact wrap_nn (by rw [max_u64]; omega)]
      refine l_plain rfl ?_
      apply s_val rfl rfl
      · exact RunS.v (r_shlN (k := .u64) (a := (bs.getD i 0).toNat) ((i + 8 - k) * 8) rfl rfl (Nat.ble_eq_true_of_le (show (i + 8 - k) * 8 ≤ 64 by omega)) (by rw [max_u64]; omega))
      refine l_plain rfl ?_
      apply s_val rfl rfl
      · exact RunS.v (r_orN (k := .u64) (a := fs bs i) (b := (bs.getD i 0).toNat * 2 ^ ((i + 8 - k) * 8)) rfl rfl (by rw [p64]; omega) (by rw [p64]; omega) (by rw [or_high _ _ _ hf, max_u64]; omega))
      rw [or_high _ _ _ hf]
      repeat (first | refine wW ?_ | intro b)
      exact at_intro (i + 1) ⟨by omega, by omega⟩ ⟨rfl, by simp only [fs, hlen]; rfl, rfl, rfl, rfl, trivial⟩ (Ent.refl _)
  · refine c_condF (by rw [show decide ((i : Int) < (k : Int)) = false from decide_eq_false (by omega)]; rfl) ?_
    have hik : i = k := by omega
    subst hik
    repeat (first | refine wW ?_ | intro b)
    refine l_plain rfl ?_
    apply s_val rfl rfl
    · exact RunS.v (r_ext rfl (f64from _))
    repeat (first | refine wW ?_ | intro b)
    exact e_ret1 A rfl rfl ⟨rfl, rfl⟩ (Ent.refl _)
end Go.Proofs.YtfebpbflpdppiaaDoor
