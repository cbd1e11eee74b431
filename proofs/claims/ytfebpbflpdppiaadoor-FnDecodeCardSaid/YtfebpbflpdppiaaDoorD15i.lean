/- Complex numbers, bytes and strings: encoded, as bytes, and back. -/
import Derived.Test.YtfebpbflpdppiaaDoorD15h
namespace Go.Proofs.YtfebpbflpdppiaaDoor
open Go Go.Sl
set_option maxRecDepth 100000
theorem dec_c128 (u v : Nat) (hu : u < 18446744073709551616) (hv : v < 18446744073709551616) (r : List UInt8) : dec1 (encFB 12 u ++ (encFB 12 v ++ r)) = .ok (.c128 u v) r := by
  have h := encFB_at 12 u (by omega) (encFB 12 v ++ r)
  have h' := encFB_at 12 v (by omega) r
  have hk := (kF8_spec u).1
  have hk' := (kF8_spec v).1
  have hl : (encFB 12 u ++ (encFB 12 v ++ r)).length = kF8 u + 1 + (kF8 v + 1 + r.length) := by rw [List.length_append, List.length_append, encFB_len, encFB_len]
  have hl' : (encFB 12 v ++ r).length = kF8 v + 1 + r.length := by rw [List.length_append, encFB_len]
  have hf := flt_enc 12 u hu (encFB 12 v ++ r)
  have hf' := flt_enc 12 v hv r
  have hd : (encFB 12 u ++ (encFB 12 v ++ r)).drop (kF8 u + 1) = encFB 12 v ++ r := List.drop_left' (encFB_len 12 u)
  have hd' : (encFB 12 v ++ r).drop (kF8 v + 1) = r := List.drop_left' (encFB_len 12 v)
  unfold dec1
  simp only [h]
  rw [if_neg (by omega), if_neg (by omega), if_neg (by omega), if_neg (by omega), if_neg (by omega), if_pos (by omega), if_neg (by omega), if_neg (by omega)]
  rw [show 12 + kF8 u - 11 = kF8 u + 1 by omega, hd, hf, h', if_neg (by omega), if_neg (by omega), if_neg (by omega), if_neg (by omega), show 12 + kF8 v - 11 = kF8 v + 1 by omega, hf', hd']
end Go.Proofs.YtfebpbflpdppiaaDoor
