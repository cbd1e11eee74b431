/- Walks: copies of bytes, floats out of bytes. -/
import Derived.Test.YtfebpbflpdppiaaDoorD2d
import Derived.Test.YtfebpbflpdppiaaDoorD2b
import Derived.Test.YtfebpbflpdppiaaDoorWx
namespace Go.Proofs.YtfebpbflpdppiaaDoor
open Go Go.Sl
set_option maxRecDepth 100000
attribute [local irreducible] wpList Code.wp Exit.then Exit.inBlock bodyPost RunS RunV G St Ct Sat Ent At Rd GQ QL wpAny wpOp wpQuiet slP Sl.ex sep
/-- bytes in a block of their own, or none -/
def InB (v : Value) (bs : List UInt8) (B : List HP) : Prop := (bs = [] ∧ v = .slice none 0 0 ∧ B = []) ∨
  ∃ nb c, bs ≠ [] ∧ bs.length ≤ c ∧ c ≤ maxLen ∧ v = .slice (some ⟨nb, 0, none⟩) bs.length c ∧ B = [blk nb (cl (u8s bs ++ List.replicate (c - bs.length) (.int .u8 0)) 5)]
theorem copied_c {A : List HP} (a : Option Addr) (k c : Nat) (bs : List UInt8) (hs : Src A 1 (.slice a k c) k (u8s bs)) (hm : k ≤ 100000000000) : Ct Tryd.prog 6 #[.slice a k c] A (fun v B => ∃ B', InB v bs B' ∧ B = B' ++ A) nev := by
  refine Ct.of Tryd.func6 rfl Tryd.ntmps6 rfl fun m F => ?_
  have hs' := hs.ent (Ent.left A F)
  generalize hls : u8s bs = ls at hs hs'
  repeat (first | refine wW ?_ | intro b)
  cases hs with
  | nil =>
    refine l_plain rfl (s_appNil0 rfl rfl rfl ?_)
    repeat (first | refine wW ?_ | intro b)
    exact e_ret1 A rfl rfl ⟨[], .inl ⟨by have := congrArg List.length hls; simpa using this, rfl, rfl⟩, rfl⟩ (Ent.refl _)
  | some b o _ _ _ hl hr =>
    have hk : bs.length = k := by have := congrArg List.length hls; simp at this hl; omega
    by_cases h0 : k = 0
    · subst h0
      refine l_plain rfl (s_appNil0 rfl rfl rfl ?_)
      repeat (first | refine wW ?_ | intro b)
      exact e_ret1 A rfl rfl ⟨[], .inl ⟨List.eq_nil_of_length_eq_zero hk, rfl, rfl⟩, rfl⟩ (Ent.refl _)
    · refine l_plain rfl (s_appNil1 rfl rfl (by omega) (by simpa using hl) (hs'.rdn) rfl (by unfold maxLen; omega) (by omega) rfl ?_)
      intro nb c' h1 h2
      repeat (first | refine wW ?_ | intro b)
      exact e_ret1 _ rfl rfl ⟨_, .inr ⟨nb, c', by intro e; subst e; simp at hk; omega, by omega, h2, by rw [hk], rfl⟩, rfl⟩ (by rw [hk, hls]; exact Ent.refl _)
end Go.Proofs.YtfebpbflpdppiaaDoor
