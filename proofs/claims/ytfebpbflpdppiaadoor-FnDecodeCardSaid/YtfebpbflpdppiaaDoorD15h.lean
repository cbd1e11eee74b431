/- Floats, complex numbers, bytes and strings: encoded, as bytes, and back. -/
import Derived.Test.YtfebpbflpdppiaaDoorD15g
namespace Go.Proofs.YtfebpbflpdppiaaDoor
open Go Go.Sl
set_option maxRecDepth 100000
def kF8 (u : Nat) : Nat := if rv 8 u = 0 then 0 else kB (rv 8 u)
def encFB (pre : Nat) (u : Nat) : List UInt8 := UInt8.ofNat (pre + kF8 u) :: beB (rv 8 u : Nat) (kF8 u)
theorem rv8_lt (u : Nat) : rv 8 u < 18446744073709551616 := by have := rv_lt 8 u; rwa [show (256 : Nat) ^ 8 = 18446744073709551616 by decide] at this
theorem kF8_spec (u : Nat) : kF8 u ≤ 8 ∧ rv 8 u < 256 ^ kF8 u := by
  unfold kF8
  split
  · rename_i h; rw [h]; exact ⟨by omega, by decide⟩
  · have := kB_spec (rv 8 u) (rv8_lt u); exact ⟨this.2.1, this.2.2.1⟩
theorem encF_B (pre : Nat) (hp : pre ≤ 20) (u : Nat) : encF (pre : Nat) u = u8s (encFB pre u) := by
  unfold encF encFB kF8
  by_cases h : rv 8 u = 0
  · rw [if_pos h, if_pos h]
    simp [u8s, beB]; omega
  · rw [if_neg h, if_neg h]
    have hm := rv8_lt u
    obtain ⟨k1, k2, k3, k4⟩ := kB_spec (rv 8 u) hm
    have hb : (((bl (rv 8 u) : Int) - 1).fdiv (2 ^ 3)) = ((kB (rv 8 u) - 1 : Nat) : Int) := by
      rw [Int.fdiv_eq_ediv_of_nonneg _ (by decide), show (2 : Int) ^ 3 = 8 by decide]
      have e := kB_bl (rv 8 u) hm (kB (rv 8 u)) (k4 (by omega)) k3 k1
      have : 0 < bl (rv 8 u) := by rw [bl_pos (by omega)]; omega
      omega
    rw [hb, encU_B, encUB_k]
    simp only [u8s, List.map_cons]
    congr 2
    have mx : IntKind.u8.max = 255 := by decide
    rw [show (pre : Int) + 1 = ((pre + 1 : Nat) : Int) by omega, wrap_nn (by rw [mx]; omega), show IntKind.u8.wrap ((kB (rv 8 u) - 1 : Nat) : Int) = ((kB (rv 8 u) - 1 : Nat) : Int) from wrap_nn (by rw [mx]; omega),
      show ((pre + 1 : Nat) : Int) + ((kB (rv 8 u) - 1 : Nat) : Int) = ((pre + kB (rv 8 u) : Nat) : Int) by omega, wrap_nn (by rw [mx]; omega)]
    simp; omega
theorem flt_enc (pre u : Nat) (hu : u < 18446744073709551616) (r : List UInt8) : flt (encFB pre u ++ r) (kF8 u + 1) = u := by
  obtain ⟨h1, h2⟩ := kF8_spec u
  unfold flt
  rw [Nat.add_sub_cancel, show (encFB pre u ++ r).drop 1 = beB (rv 8 u : Nat) (kF8 u) ++ r from rfl, List.take_left' (beB_len _ _)]
  exact fs_beB u (kF8 u) hu h1 h2
theorem encFB_len (pre u : Nat) : (encFB pre u).length = kF8 u + 1 := by simp [encFB, beB_len]
theorem encFB_at (pre u : Nat) (hp : pre ≤ 20) (r : List UInt8) : at1 (encFB pre u ++ r) 0 = pre + kF8 u := by
  have := (kF8_spec u).1
  show (UInt8.ofNat (pre + kF8 u)).toNat = _
  simp; omega
theorem dec_f64 (u : Nat) (hu : u < 18446744073709551616) (r : List UInt8) : dec1 (encFB 3 u ++ r) = .ok (.f64 u) r := by
  have h := encFB_at 3 u (by omega) r
  have hk := (kF8_spec u).1
  have hl : (encFB 3 u ++ r).length = kF8 u + 1 + r.length := by rw [List.length_append, encFB_len]
  have hf := flt_enc 3 u hu r
  have hd : (encFB 3 u ++ r).drop (kF8 u + 1) = r := List.drop_left' (encFB_len 3 u)
  unfold dec1
  simp only [h]
  by_cases h0 : kF8 u = 0
  · rw [if_neg (by omega), if_neg (by omega), if_neg (by omega), if_pos (by omega)]
    rw [h0] at hd hf
    have : flt (encFB 3 u ++ r) (0 + 1) = 0 := rfl
    rw [this] at hf
    subst hf
    rw [Nat.zero_add] at hd
    rw [hd]
  · rw [if_neg (by omega), if_neg (by omega), if_neg (by omega), if_neg (by omega), if_pos (by omega), if_neg (by omega), if_neg (by omega), show 3 + kF8 u - 2 = kF8 u + 1 by omega, hf, hd]
end Go.Proofs.YtfebpbflpdppiaaDoor
