/- What is encoded is decoded to the same. -/
import Derived.Test.YtfebpbflpdppiaaDoorD15j
namespace Go.Proofs.YtfebpbflpdppiaaDoor
open Go Go.Sl
set_option maxRecDepth 100000
theorem bB_lo (n : Nat) (h : n < 256) : (bB (n : Int) 0).toNat = n := by rw [bB_nat, Int.pow_zero, Int.fdiv_one]; omega
theorem dec_bytes (t : List UInt8) (hs : t.length < 65536) (r : List UInt8) : dec1 (hdBytes t.length ++ t ++ r) = .ok (.bytes t) r := by
  unfold hdBytes
  split
  · rename_i h
    have ha : at1 ([bB (21 + (t.length : Nat)) 0] ++ t ++ r) 0 = 21 + t.length := by
      show (bB (21 + (t.length : Nat)) 0).toNat = _
      rw [show (21 : Int) + (t.length : Nat) = ((21 + t.length : Nat) : Int) by omega, bB_lo _ (by omega)]
    unfold dec1
    simp only [ha]
    rw [if_neg (by omega), if_neg (by omega), if_neg (by omega), if_neg (by omega), if_neg (by omega), if_neg (by omega), if_pos (by omega)]
    exact taken_app _ t r _ (by omega)
  · split
    · rename_i h h2
      have ha : at1 ([39, bB (t.length : Nat) 0] ++ t ++ r) 0 = 39 := rfl
      have hb : at1 ([39, bB (t.length : Nat) 0] ++ t ++ r) 1 = t.length := bB_lo _ (by omega)
      unfold dec1
      simp only [ha, hb]
      rw [if_neg (by omega), if_neg (by omega), if_neg (by omega), if_neg (by omega), if_neg (by omega), if_neg (by omega), if_neg (by omega), if_pos trivial, if_neg (by simp)]
      exact taken_app _ t r _ rfl
    · rename_i h h2
      have ha : at1 ([40, bB ((t.length : Nat) - 1) 8, bB ((t.length : Nat) - 1) 0] ++ t ++ r) 0 = 40 := rfl
      have hb : at1 ([40, bB ((t.length : Nat) - 1) 8, bB ((t.length : Nat) - 1) 0] ++ t ++ r) 1 = (t.length - 1) / 256 := by
        show (bB ((t.length : Nat) - 1) 8).toNat = _
        rw [bB_nat, show (2 : Int) ^ 8 = 256 by decide, Int.fdiv_eq_ediv_of_nonneg _ (by decide)]; omega
      have hc : at1 ([40, bB ((t.length : Nat) - 1) 8, bB ((t.length : Nat) - 1) 0] ++ t ++ r) 2 = (t.length - 1) % 256 := by
        show (bB ((t.length : Nat) - 1) 0).toNat = _
        rw [bB_nat, Int.pow_zero, Int.fdiv_one]; omega
      unfold dec1
      simp only [ha, hb, hc]
      rw [if_neg (by omega), if_neg (by omega), if_neg (by omega), if_neg (by omega), if_neg (by omega), if_neg (by omega), if_neg (by omega), if_neg (by omega), if_pos trivial, if_neg (by simp)]
      exact taken_app _ t r _ (by omega)
theorem encUB_1 (n : Nat) (h : n ≤ 255) : encUB n = [bB (n : Nat) 0] := by unfold encUB; rw [if_pos h]; rfl
theorem encUB_2 (n : Nat) (h : 255 < n) (h2 : n ≤ 65535) : encUB n = [bB (n : Nat) 8, bB (n : Nat) 0] := by unfold encUB; rw [if_neg (by omega), if_pos h2]; rfl
theorem dec_str (t : List UInt8) (hs : t.length < 65536) (r : List UInt8) : dec1 (hdStr t.length ++ t ++ r) = .ok (.str t) r := by
  unfold hdStr
  split
  · rename_i h
    have ha : at1 ([bB (41 + (t.length : Nat)) 0] ++ t ++ r) 0 = 41 + t.length := by
      show (bB (41 + (t.length : Nat)) 0).toNat = _
      rw [show (41 : Int) + (t.length : Nat) = ((41 + t.length : Nat) : Int) by omega, bB_lo _ (by omega)]
    unfold dec1
    simp only [ha]
    rw [if_neg (by omega), if_neg (by omega), if_neg (by omega), if_neg (by omega), if_neg (by omega), if_neg (by omega), if_neg (by omega), if_neg (by omega), if_neg (by omega), if_pos (by omega)]
    exact taken_app _ t r _ (by omega)
  · split
    · rename_i h h2
      rw [encUB_1 _ h2]
      have ha : at1 (59 :: [bB (t.length : Nat) 0] ++ t ++ r) 0 = 59 := rfl
      have hb : at1 (59 :: [bB (t.length : Nat) 0] ++ t ++ r) 1 = t.length := bB_lo _ (by omega)
      unfold dec1
      simp only [ha, hb]
      rw [if_neg (by omega), if_neg (by omega), if_neg (by omega), if_neg (by omega), if_neg (by omega), if_neg (by omega), if_neg (by omega), if_neg (by omega), if_neg (by omega), if_neg (by omega), if_pos trivial, if_neg (by simp)]
      exact taken_app _ t r _ rfl
    · rename_i h h2
      rw [encUB_2 _ (by omega) (by omega)]
      have ha : at1 (60 :: [bB (t.length : Nat) 8, bB (t.length : Nat) 0] ++ t ++ r) 0 = 60 := rfl
      have hb : at1 (60 :: [bB (t.length : Nat) 8, bB (t.length : Nat) 0] ++ t ++ r) 1 = t.length / 256 := by
        show (bB (t.length : Nat) 8).toNat = _
        rw [bB_nat, show (2 : Int) ^ 8 = 256 by decide, Int.fdiv_eq_ediv_of_nonneg _ (by decide)]; omega
      have hc : at1 (60 :: [bB (t.length : Nat) 8, bB (t.length : Nat) 0] ++ t ++ r) 2 = t.length % 256 := by
        show (bB (t.length : Nat) 0).toNat = _
        rw [bB_nat, Int.pow_zero, Int.fdiv_one]; omega
      unfold dec1
      simp only [ha, hb, hc]
      rw [if_neg (by omega), if_neg (by omega), if_neg (by omega), if_neg (by omega), if_neg (by omega), if_neg (by omega), if_neg (by omega), if_neg (by omega), if_neg (by omega), if_neg (by omega), if_neg (by omega), if_pos trivial, if_neg (by simp)]
      exact taken_app _ t r _ (by omega)
theorem dec_uint' (n : Nat) (h : n < 18446744073709551616) (r : List UInt8) : dec1 (encUiB n ++ r) = .ok (.u64 n) r := by
  obtain ⟨k1, k2, k3, k4⟩ := kB_spec n h
  exact dec_uint _ (kB n) ⟨k1, k2⟩ (by simp; omega) n (by exact_mod_cast k3) h r
theorem dec_enc (s : Sc) (hw : s.wf) (hs : small s) (r : List UInt8) : dec1 (encScB s ++ r) = .ok s r := by
  cases s with
  | nil => rfl
  | bool b => cases b <;> rfl
  | i64 n => exact dec_encI n hw.1 hw.2 r
  | u64 n => exact dec_uint' n hw r
  | f64 u => exact dec_f64 u hw r
  | c128 u v => simp only [encScB]; rw [List.append_assoc]; exact dec_c128 u v hw.1 hw.2 r
  | bytes t => exact dec_bytes t hs r
  | str t => exact dec_str t hs r
def encLB (l : List Sc) : List UInt8 := l.flatMap encScB
theorem encL_B (l : List Sc) (hw : ∀ s ∈ l, s.wf) : encL l = u8s (encLB l) := by
  induction l with
  | nil => rfl
  | cons s l ih =>
    simp only [encL, encLB, List.flatMap_cons, u8s_append] at ih ⊢
    rw [encSc_B s (hw s (by simp)), ih fun x hx => hw x (by simp [hx])]
theorem encScB_ne (s : Sc) (hw : s.wf) (hs : small s) : encScB s ≠ [] := fun e => by
  have h := dec_enc s hw hs []
  rw [e] at h
  have : (1 : Nat) ≤ (encSc s).length := by
    cases s with
    | nil => exact Nat.le_refl _
    | bool b => exact Nat.le_refl _
    | i64 n => exact (encI_len n).1
    | u64 n => simp [encSc, encUi]
    | f64 u => exact (encF_len 3 u).1
    | c128 u v => have := (encF_len 12 u).1; simp only [encSc, List.length_append]; omega
    | bytes t => simp only [encSc]; split <;> (try split) <;> simp
    | str t => simp only [encSc]; split <;> simp
  rw [encSc_B s hw, e] at this
  simp at this
theorem decN_enc : ∀ (l : List Sc) (f : Nat), (∀ s ∈ l, s.wf ∧ small s) → l.length ≤ f → decN f (encLB l) = .ok l := by
  intro l
  induction l with
  | nil => intro f _ _; exact decN_nil f
  | cons s l ih =>
    intro f h hf
    obtain ⟨g, rfl⟩ : ∃ g, f = g + 1 := ⟨f - 1, by simp at hf; omega⟩
    obtain ⟨h1, h2⟩ := h s (by simp)
    have hne : encScB s ++ encLB l ≠ [] := by
      intro e
      exact encScB_ne s h1 h2 (List.append_eq_nil_iff.1 e).1
    show decN (g + 1) (encScB s ++ encLB l) = _
    simp only [decN, if_neg hne, dec_enc s h1 h2]
    rw [ih g (fun x hx => h x (by simp [hx])) (by simp at hf; omega)]
    rfl
theorem encLB_len (l : List Sc) (h : ∀ s ∈ l, s.wf ∧ small s) : l.length ≤ (encLB l).length := by
  induction l with
  | nil => simp
  | cons s l ih =>
    have h1 := h s (by simp)
    have := List.length_pos_iff.2 (encScB_ne s h1.1 h1.2)
    have := ih fun x hx => h x (by simp [hx])
    simp only [encLB, List.flatMap_cons, List.length_append, List.length_cons] at this ⊢
    omega
end Go.Proofs.YtfebpbflpdppiaaDoor
