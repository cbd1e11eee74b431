/- The fifth part of the calculus. -/
import Derived.Test.YtfebpbflpdppiaaDoorWy
namespace Go.Sl
open Go
section
variable {P : Program} {n : Nat} {ds : List Deferred} {σ : Env} {m : Amb} {L : List HP} {Q : Exit → Act → World → Prop} {K : Act → World → Prop} {ops : Array Oper} {fuel : Nat} {listed : Array Bool}
/-- what follows a panic does not look at the frame -/
def PI (Q : Exit → Act → World → Prop) : Prop := ∀ (d : Option Tmp) (v : Value) (c : List PanicEntry) (a : Act) (w : World), Q (.panic c) (a.put d v) w → Q (.panic c) a w
theorem pi_body {fn : Func} {R : Ending → World → Prop} : PI (bodyPost P fn R) := fun d v c a w h => by
  cases d <;> exact h
theorem pi_block {i : Nat} (h : PI Q) : PI (Exit.inBlock i Q) := fun d v c a w hq => h d v c a w hq
theorem pi_then (h : PI Q) : PI (Exit.then K Q) := fun d v c a w hq => h d v c a w hq
theorem pi_jump {l : Nat} (h : PI Q) : PI (Exit.jump l K Q) := fun d v c a w hq => h d v c a w hq
theorem a_takeP {o : Oper} {v : Value} {d : Nat} (i : Nat) (hi : ops[i]? = some o) (hs : Region.noSelect ops = true) (hf : Region.free .any ops listed i = true) (hr : (Region.ready .any ops listed).contains i = true) (hg : o.guard = none) (hd : o.dst = some d) (hk : Nat.blt d n = true)
    (hQ : PI Q) (hv : RunS P o σ v) (h : G n ds ((d, v) :: σ) m L (wpAny P .any ops Q fuel (listed.setIfInBounds i true))) : G n ds σ m L (wpAny P .any ops Q (fuel + 1) listed) :=
  a_take i hi hs hf hr hg hd hk (fun c a w hq => hQ _ _ c a w hq) hv h
theorem a_four {o p q r : Oper} (i j k l : Nat) (hr : Region.ready .any ops listed = [i, j, k, l]) (hi : ops[i]? = some o) (hg : o.guard = none) (hj : ops[j]? = some p) (hg' : p.guard = none) (hk : ops[k]? = some q) (hg'' : q.guard = none) (hl : ops[l]? = some r) (hg3 : r.guard = none)
    (h : G n ds σ m L (St P o (wpAny P .any ops Q fuel (listed.setIfInBounds i true)) Q)) (h' : G n ds σ m L (St P p (wpAny P .any ops Q fuel (listed.setIfInBounds j true)) Q))
    (h'' : G n ds σ m L (St P q (wpAny P .any ops Q fuel (listed.setIfInBounds k true)) Q)) (h3 : G n ds σ m L (St P r (wpAny P .any ops Q fuel (listed.setIfInBounds l true)) Q)) : G n ds σ m L (wpAny P .any ops Q (fuel + 1) listed) := fun a w h1 h2 h4 h5 =>
  wpAny_all hr (by simp) fun x hx => by
    simp at hx
    rcases hx with rfl | rfl | rfl | rfl
    · exact a_op hi hg h a w h1 h2 h4 h5
    · exact a_op hj hg' h' a w h1 h2 h4 h5
    · exact a_op hk hg'' h'' a w h1 h2 h4 h5
    · exact a_op hl hg3 h3 a w h1 h2 h4 h5
/-- a meeting behind a piece of code -/
theorem c_mid {α : Type} {c : Code} (S : α → Env) (H : α → List HP) (J : α → Prop) (h1 : G n ds σ m L (c.wp P (Exit.then (At n ds m S H J) Q))) (h2 : ∀ z, J z → G n ds (S z) m (H z) K) : G n ds σ m L (c.wp P (Exit.then K Q)) := fun a w g1 g2 g3 g4 => by
  refine wp_mono (h1 a w g1 g2 g3 g4) fun e a' w' q => ?_
  cases e with
  | normal => obtain ⟨z, hJ, k1, k2, k3, k4⟩ := q; exact h2 z hJ a' w' k1 k2 k3 k4
  | _ => exact q
end
end Go.Sl
