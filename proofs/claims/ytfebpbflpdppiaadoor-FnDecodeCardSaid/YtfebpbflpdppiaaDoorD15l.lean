/- What is decoded is well formed. -/
import Derived.Test.YtfebpbflpdppiaaDoorD15k
namespace Go.Proofs.YtfebpbflpdppiaaDoor
open Go Go.Sl
set_option maxRecDepth 100000
theorem wrap_rng (a : Int) : -9223372036854775808 ≤ IntKind.i64.wrap a ∧ IntKind.i64.wrap a ≤ 9223372036854775807 := by
  simp only [IntKind.wrap, IntKind.signed, IntKind.bits]
  simp
  split <;> omega
theorem flt_lt (l : List UInt8) (n : Nat) (h : n ≤ 9) (hl : n ≤ l.length) (hn : 1 ≤ n) : flt l n < 2 ^ 64 := by
  unfold flt
  have hlen : ((l.drop 1).take (n - 1)).length = n - 1 := by rw [List.length_take, List.length_drop]; omega
  have := fs_lt ((l.drop 1).take (n - 1)) (by omega) (n - 1)
  rw [hlen, show (n - 1 + 8 - (n - 1)) * 8 = 64 by omega] at this
  exact this
def goodDR (l : List UInt8) : DR → Prop
  | .ok s r => s.wf ∧ r.length < l.length ∧ (kS s).length ≤ 65536
  | _ => True
theorem taken_good (mk : List UInt8 → Sc) (l : List UInt8) (k n : Nat) (hk : 0 < k) (hl : 0 < l.length) (h : ∀ s : List UInt8, s.length = n → (mk s).wf ∧ (kS (mk s)).length ≤ 65536) : goodDR l (taken mk (l.drop k) n) := by
  unfold taken
  split
  · trivial
  · rename_i hn
    have := h ((l.drop k).take n) (by rw [List.length_take]; omega)
    refine ⟨this.1, ?_, this.2⟩
    rw [List.length_drop, List.length_drop]; omega
theorem ite_good {c : Prop} [Decidable c] {l : List UInt8} {a b : DR} (h1 : c → goodDR l a) (h2 : ¬ c → goodDR l b) : goodDR l (if c then a else b) := by
  split
  · exact h1 (by assumption)
  · exact h2 (by assumption)
theorem bei_rng (l : List UInt8) : -9223372036854775808 ≤ bei 0 l ∧ bei 0 l ≤ 9223372036854775807 := by
  cases l with
  | nil => simp [bei]
  | cons v l => rw [← bei_wrap 0 (v :: l) (by simp)]; exact wrap_rng _
theorem dec1_good (l : List UInt8) (hl : 0 < l.length) : goodDR l (dec1 l) := by
  have d1 : (l.drop 1).length < l.length := by rw [List.length_drop]; omega
  have hb1 := at1_lt l 1
  have hb2 := at1_lt l 2
  have ht := at1_lt l 0
  unfold dec1
  dsimp only
  refine ite_good (fun _ => ⟨trivial, d1, by simp [kS]⟩) fun n0 => ?_
  refine ite_good (fun _ => ⟨trivial, d1, by simp [kS]⟩) fun n1 => ?_
  refine ite_good (fun _ => ⟨trivial, d1, by simp [kS]⟩) fun n2 => ?_
  refine ite_good (fun _ => ⟨(by decide : (0 : Nat) < 2 ^ 64), d1, by simp [kS]⟩) fun n3 => ?_
  refine ite_good (fun c => ite_good (fun _ => trivial) fun _ => ite_good (fun _ => trivial) fun e => ⟨flt_lt l _ (by omega) (by omega) (by omega), by rw [List.length_drop]; omega, by simp [kS]⟩) fun n4 => ?_
  refine ite_good (fun c => ite_good (fun _ => trivial) fun _ => ite_good (fun _ => trivial) fun e => ite_good (fun _ => trivial) fun e1 => ite_good (fun _ => trivial) fun e2 => ite_good (fun _ => trivial) fun e3 => ite_good (fun _ => trivial) fun e4 =>
    ⟨⟨flt_lt l _ (by omega) (by omega) (by omega), flt_lt _ _ (by omega) (by omega) (by omega)⟩, by rw [List.length_drop, List.length_drop]; omega, by simp [kS]⟩) fun n5 => ?_
  refine ite_good (fun c => taken_good _ l 1 _ (by omega) hl fun s hs => ⟨trivial, by simp only [kS]; omega⟩) fun n6 => ?_
  refine ite_good (fun c => ite_good (fun _ => trivial) fun _ => taken_good _ l 2 _ (by omega) hl fun s hs => ⟨trivial, by simp only [kS]; omega⟩) fun n7 => ?_
  refine ite_good (fun c => ite_good (fun _ => trivial) fun _ => taken_good _ l 3 _ (by omega) hl fun s hs => ⟨trivial, by simp only [kS]; omega⟩) fun n8 => ?_
  refine ite_good (fun c => taken_good _ l 1 _ (by omega) hl fun s hs => ⟨trivial, by simp only [kS]; omega⟩) fun n9 => ?_
  refine ite_good (fun c => ite_good (fun _ => trivial) fun _ => taken_good _ l 2 _ (by omega) hl fun s hs => ⟨trivial, by simp only [kS]; omega⟩) fun n10 => ?_
  refine ite_good (fun c => ite_good (fun _ => trivial) fun _ => taken_good _ l 3 _ (by omega) hl fun s hs => ⟨trivial, by simp only [kS]; omega⟩) fun n11 => ?_
  refine ite_good (fun c => taken_good _ l 1 _ (by omega) hl fun s hs => ⟨beu_lt 0 s (by decide), by simp [kS]⟩) fun n12 => ?_
  refine ite_good (fun c => taken_good _ l 1 _ (by omega) hl fun s hs => ⟨wrap_rng _, by simp [kS]⟩) fun n13 => ?_
  refine ite_good (fun c => taken_good _ l 1 _ (by omega) hl fun s hs => ⟨bei_rng s, by simp [kS]⟩) fun n14 => ?_
  exact ⟨⟨by omega, by omega⟩, d1, by simp [kS]⟩
theorem decN_good : ∀ (f : Nat) (l : List UInt8) (o : List Sc), l.length ≤ f → decN f l = .ok o → o.length ≤ l.length ∧ ∀ s ∈ o, s.wf ∧ (kS s).length ≤ 65536 := by
  intro f
  induction f with
  | zero => intro l o _ h; simp [decN] at h; subst h; simp
  | succ f ih =>
    intro l o hf h
    by_cases hl : l = []
    · subst hl; simp [decN] at h; subst h; simp
    · have hp := List.length_pos_iff.2 hl
      have hg := dec1_good l hp
      simp only [decN, if_neg hl] at h
      cases hd : dec1 l with
      | bad => rw [hd] at h; cases h
      | boom => rw [hd] at h; cases h
      | ok s r =>
        rw [hd] at h hg
        obtain ⟨g1, g2, g3⟩ := hg
        simp only at h
        cases hr : decN f r with
        | bad => rw [hr] at h; cases h
        | boom => rw [hr] at h; cases h
        | ok o' =>
          rw [hr] at h
          simp only [DL.pre, DL.ok.injEq] at h
          subst h
          have := ih r o' (by omega) hr
          refine ⟨by simp; omega, ?_⟩
          intro x hx
          simp at hx
          rcases hx with rfl | hx
          · exact ⟨g1, g3⟩
          · exact this.2 x hx
end Go.Proofs.YtfebpbflpdppiaaDoor
